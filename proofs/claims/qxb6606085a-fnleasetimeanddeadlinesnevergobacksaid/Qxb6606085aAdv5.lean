import Derived.Test.Qxb6606085aBase
import Derived.Deep.QuietTactic
import Derived.BigQuiet
import Derived.BigRegion
namespace Go.Proofs.Qxb6606085a
open Go.RowKit Go.Maps
set_option linter.unusedVariables false

structure Inv5 (w wr : World) (M B L n : Nat) (c t s wl a b d : Int) (ttl dl : Nat → Int) (en : Nat → Bool) (D : DataW Unit) (left : Lit → Bool) (cnt : Nat) : Prop where
  rg : wr.ranges Try.prog 22 ptrElem M (w.heap.size + 1) n D left cnt
  sub : ∀ kl, left kl = true → Maps.has D kl = true
  up : Upto (Blk B L n) w wr
  sz : w.heap.size + 2 ≤ wr.heap.size
  tb : wr.heap[B]? = some (.cells #[.int .u64 c, .int .u64 t, .int .u64 s, .int .u64 wl, .int .u64 0, .map (some M), .map .none, .int .i64 0, .int .i64 0] 44)
  at_ : wr.heap[w.heap.size]? = some (.cells #[.int .u64 a, .int .u64 b, .int .u64 d, .int .u64 0] 29)
  ls : ∀ i, i < n → wr.heap[L + i]? = some (.cells #[.int .u64 (ttl i), .int .u64 (if left (.int .u64 (i : Int)) then dl i else newDl c ttl dl en i), .map .none, .bool (en i)] 48)

section
variable {w wr w1 w0 : World} {M B L n : Nat} {c t s wl a b d : Int} {ttl dl : Nat → Int} {en : Nat → Bool} {D : DataW Unit} {left : Lit → Bool} {cnt cnt1 : Nat}

theorem Inv5.start (T : Tab w M B L n c t s wl ttl dl en) (hD : Dat L n D) (k : Nat) (hrg : w0.ranges Try.prog 22 ptrElem M (w.heap.size + 1) n D (Maps.has D) (Maps.size D))
    (hg : ((w.alloc (.cells #[.int .u64 a, .int .u64 b, .int .u64 d, .int .u64 0] 29)).drewN k).grownBy w0 .none) (hs : w0.heap.size = w.heap.size + 1 + 1) : Inv5 w w0 M B L n c t s wl a b d ttl dl en D (Maps.has D) (Maps.size D) := by
  have hB := T.lt
  have hL := T.sz
  have up0 : Upto (fun _ => False) w w0 := (((Upto.refl _ w).alloc (.cells #[.int .u64 a, .int .u64 b, .int .u64 d, .int .u64 0] 29)).drewN k).grown hg (fun k hk => by cases hk)
  refine ⟨hrg, fun _ h => h, up0.mono (fun _ h => h.elim), by omega, (up0.block B hB (fun h => h)).trans T.tb, ?_, fun i hi => ?_⟩
  · rw [hg.block w.heap.size (by simp) (by simp)]
    exact heap_alloc_new w _
  · have hh : Maps.has D (.int .u64 (i : Int)) = true := by
      cases h : Maps.has D (.int .u64 (i : Int))
      · have e := hD.look i hi .nil
        have e' := hD.look i hi (.lit (.bool true))
        have := Maps.has_true_of_atKey (D := D) (k := .int .u64 (i : Int)) (fun z => hD.look i hi z)
        rw [h] at this; cases this
      · rfl
    rw [if_pos hh]
    exact (up0.block _ (by omega) (fun h => h)).trans (T.ls i hi)

theorem Inv5.cells (h : Inv5 w wr M B L n c t s wl a b d ttl dl en D left cnt) (hL : L + n ≤ w.heap.size) (hB : B < w.heap.size) (hg : wr.grownBy w1 (some (w.heap.size + 1))) {i : Nat} (hi : i < n) (hl : left (.int .u64 (i : Int)) = true) :
    w1.cell? ⟨L + i, 0, .none⟩ = some (.int .u64 (ttl i)) ∧ w1.cell? ⟨L + i, 1, .none⟩ = some (.int .u64 (dl i)) ∧ w1.cell? ⟨L + i, 3, .none⟩ = some (.bool (en i)) ∧ w1.frozen? ⟨L + i, 1, .none⟩ = false ∧ w1.cell? ⟨B, 0, .none⟩ = some (.int .u64 c) := by
  have hz := h.sz
  have e1 := (hg.block (L + i) (by omega) (by simp; omega)).trans (h.ls i hi)
  rw [if_pos hl] at e1
  have e2 := (hg.block B (by omega) (by simp; omega)).trans h.tb
  exact ⟨cell_of_row w1 _ 0 _ 48 (0, 0) e1, cell_of_row w1 _ 1 _ 48 (0, 0) e1, cell_of_row w1 _ 3 _ 48 (0, 0) e1, frozen_of_row w1 _ 1 _ 48 e1, cell_of_row w1 _ 0 _ 44 (0, 0) e2⟩

theorem same_iff (i j : Nat) : (Lit.int .u64 (j : Int)).sameKey (.int .u64 (i : Int)) = (j == i) := by
  by_cases e : j = i
  · subst e; simp [WideAt.sameKey_self (a := .int .u64 (j : Int)) trivial]
  · rw [Maps.sameKey_ne (by simp; omega)]; simp [e]

theorem Inv5.skip (h : Inv5 w wr M B L n c t s wl a b d ttl dl en D left cnt) (hL : L + n ≤ w.heap.size) (hB : B < w.heap.size) (hg : wr.grownBy w1 (some (w.heap.size + 1))) (hs : w1.heap.size = wr.heap.size) {i : Nat} (hi : i < n) (hl : left (.int .u64 (i : Int)) = true) (he : en i = true)
    (hrg : w1.ranges Try.prog 22 ptrElem M (w.heap.size + 1) n D (fun z => left z && !z.sameKey (.int .u64 (i : Int))) cnt1) : Inv5 w w1 M B L n c t s wl a b d ttl dl en D (fun z => left z && !z.sameKey (.int .u64 (i : Int))) cnt1 := by
  have hz := h.sz
  refine ⟨hrg, fun kl hk => h.sub kl (by simp at hk; exact hk.1), h.up.grown hg (fun k hk => by cases hk; left; omega), by omega, (hg.block B (by omega) (by simp; omega)).trans h.tb, (hg.block _ (by omega) (by simp)).trans h.at_, fun j hj => ?_⟩
  rw [(hg.block (L + j) (by omega) (by simp; omega)), h.ls j hj]
  simp only [same_iff]
  by_cases e : j = i
  · subst e; simp [hl, newDl, he]
  · simp [e]

theorem Inv5.set (h : Inv5 w wr M B L n c t s wl a b d ttl dl en D left cnt) (hM : M < B) (hBL : B < L) (hL : L + n ≤ w.heap.size) (hB : B < w.heap.size) (hg : wr.grownBy w1 (some (w.heap.size + 1))) (hs : w1.heap.size = wr.heap.size) {i : Nat} (hi : i < n) (hl : left (.int .u64 (i : Int)) = true) (he : en i = false)
    (hrg : w1.ranges Try.prog 22 ptrElem M (w.heap.size + 1) n D (fun z => left z && !z.sameKey (.int .u64 (i : Int))) cnt1) (k : Nat) {x : Int} (hx : x = newDl c ttl dl en i) :
    Inv5 w ((w1.setCell ⟨L + i, 1, .none⟩ (.int .u64 x)).drewN k) M B L n c t s wl a b d ttl dl en D (fun z => left z && !z.sameKey (.int .u64 (i : Int))) cnt1 := by
  have hz := h.sz
  subst hx
  have hu : Upto (Blk B L n) w ((w1.setCell ⟨L + i, 1, .none⟩ (.int .u64 (newDl c ttl dl en i))).drewN k) :=
    ((h.up.grown hg (fun k hk => by cases hk; left; omega)).setCell (by right; right; exact ⟨by show L ≤ L + i; omega, by show L + i < L + n; omega⟩) _).drewN k
  have hgs : w1.grownBy ((w1.setCell ⟨L + i, 1, .none⟩ (.int .u64 (newDl c ttl dl en i))).drewN k) (some (L + i)) :=
    ⟨rfl, rfl, rfl, by simp [World.setCell], fun k' _ hk' => heap_setCell_other _ _ _ _ (fun e => hk' (by rw [e]))⟩
  have hMlt := h.rg.owns.lt
  refine ⟨hrg.kept hgs (by simp; omega) (by simp; omega), fun kl hk => h.sub kl (by simp at hk; exact hk.1), hu, by simp [World.setCell]; omega, ?_, ?_, fun j hj => ?_⟩
  · rw [hgs.block B (by omega) (by simp; omega)]; exact (hg.block B (by omega) (by simp; omega)).trans h.tb
  · rw [hgs.block _ (by omega) (by simp; omega)]; exact (hg.block _ (by omega) (by simp)).trans h.at_
  · by_cases e : j = i
    · subst e
      have e1 := (hg.block (L + j) (by omega) (by simp; omega)).trans (h.ls j hj)
      rw [World.heap_drewN, heap_setCell_same _ _ _ _ _ _ e1]
      simp [same_iff]
    · rw [hgs.block (L + j) (by omega) (by simp; omega), hg.block (L + j) (by omega) (by simp; omega), h.ls j hj]
      simp only [same_iff]
      simp [e]
theorem Inv5.tcells (h : Inv5 w wr M B L n c t s wl a b d ttl dl en D left cnt) :
    (wr.cell? ⟨w.heap.size, 0, .none⟩ = some (.int .u64 a) ∧ wr.cell? ⟨w.heap.size, 1, .none⟩ = some (.int .u64 b) ∧ wr.cell? ⟨w.heap.size, 2, .none⟩ = some (.int .u64 d) ∧ wr.cell? ⟨w.heap.size, 3, .none⟩ = some (.int .u64 0)) ∧
    (wr.cell? ⟨B, 1, .none⟩ = some (.int .u64 t) ∧ wr.cell? ⟨B, 2, .none⟩ = some (.int .u64 s) ∧ wr.cell? ⟨B, 3, .none⟩ = some (.int .u64 wl) ∧ wr.cell? ⟨B, 4, .none⟩ = some (.int .u64 0)) ∧
    (wr.frozen? ⟨B, 1, .none⟩ = false ∧ wr.frozen? ⟨B, 2, .none⟩ = false ∧ wr.frozen? ⟨B, 3, .none⟩ = false ∧ wr.frozen? ⟨B, 4, .none⟩ = false) :=
  ⟨⟨cell_of_row wr _ 0 _ 29 (0, 0) h.at_, cell_of_row wr _ 1 _ 29 (0, 0) h.at_, cell_of_row wr _ 2 _ 29 (0, 0) h.at_, cell_of_row wr _ 3 _ 29 (0, 0) h.at_⟩,
   ⟨cell_of_row wr _ 1 _ 44 (0, 0) h.tb, cell_of_row wr _ 2 _ 44 (0, 0) h.tb, cell_of_row wr _ 3 _ 44 (0, 0) h.tb, cell_of_row wr _ 4 _ 44 (0, 0) h.tb⟩,
   ⟨frozen_of_row wr _ 1 _ 44 h.tb, frozen_of_row wr _ 2 _ 44 h.tb, frozen_of_row wr _ 3 _ 44 h.tb, frozen_of_row wr _ 4 _ 44 h.tb⟩⟩

theorem Inv5.done (h : Inv5 w wr M B L n c t s wl a b d ttl dl en D left cnt) (hM : M < B) (hBL : B < L) (hL : L + n ≤ w.heap.size) (hB : B < w.heap.size) (hD : Dat L n D) (hl : ∀ kl, left kl = false) (k : Nat) :
    Upto (Blk B L n) w ((setLast wr B a b d).drewN k) ∧ Tab ((setLast wr B a b d).drewN k) M B L n c a b d ttl (newDl c ttl dl en) en := by
  have hz := h.sz
  have hb : Blk B L n B := Or.inl rfl
  have hu : Upto (Blk B L n) w ((setLast wr B a b d).drewN k) := (setLast_up h.up hb a b d).drewN k
  have hu2 : Upto (fun k => k = B) wr ((setLast wr B a b d).drewN k) := (setLast_up (Upto.refl _ wr) (by rfl) a b d).drewN k
  refine ⟨hu, hM, hBL, by have := hu.size; omega, ?_, fun i hi => ?_, D, ?_, hD⟩
  · exact setLast_tb a b d h.tb
  · rw [hu2.block (L + i) (by omega) (by show L + i ≠ B; omega), h.ls i hi, if_neg (by rw [hl]; simp)]
  · have ho := h.rg.owns
    have hlt := ho.lt
    obtain ⟨es, clock, hb, r⟩ := ho
    exact ⟨es, clock, (hu2.block M hlt (by show M ≠ B; omega)).trans hb, r⟩
end

set_option maxHeartbeats 800000 in
theorem adv5 {w : World} {M B L n : Nat} {c t s wl : Int} {ttl dl : Nat → Int} {en : Nat → Bool} (a b d bk : Int) (T : Tab w M B L n c t s wl ttl dl en)
    (hlt : t < a) (ht : (t != 0) = true) (hw : (wl != 0) = true) (hd : decide (wl < d) = true) (hb : decide (wl < bk) = true) :
    Calls Try.prog 18 #[.pointer (some ⟨B, 0, .none⟩), .agg #[.int .u64 a, .int .u64 b, .int .u64 d, .int .u64 bk]] w fun e w' => e = .returned (.tuple #[]) ∧ Upto (Blk B L n) w w' ∧ Tab w' M B L n c a b d ttl (newDl c ttl dl en) en := by
  have e0 : decide (a < t) = false := by simp; omega
  have e1 : (a == t) = false := by simp; omega
  obtain ⟨hB, h0, h1, h2, h3, h4, h5, f0, f1, f2, f3, f4⟩ := T.facts
  obtain ⟨D, hown, hD⟩ := T.own
  have HT : Hid (Tab w M B L n c t s wl ttl dl en) := T
  clear T
  have HD : Hid (Dat L n D) := hD
  clear hD
  have hMlt := hown.lt
  have hown1 : ∀ k, ((w.alloc (.cells #[.int .u64 a, .int .u64 b, .int .u64 d, .int .u64 0] 29)).drewN k).ownsMap Try.prog 22 ptrElem M n D := fun k => hown.alloc _
  have HO : Hid (∀ k, ((w.alloc (.cells #[.int .u64 a, .int .u64 b, .int .u64 d, .int .u64 0] 29)).drewN k).ownsMap Try.prog 22 ptrElem M n D) := hown1
  clear hown1 hown
  go_enter Try.func18, Try.ntmps18
  go_wp2
  go_quiet (fail)
  go_wp2
  go_quiet (fail)
  go_wp2
  go_quiet (fail)
  go_wp2
  go_quiet (fail)
  go_wp2_with (first
    | (at_range; refine wpList_range_own _ rfl _ 39 rfl 22 45 law22 Try.underlying39 _ M n D rfl (HO.out _) ?_; intro w0 hrg0 hg0 hs0)
    | go_in)
  go_frame
  have e2 : ∀ o k, ((w.alloc o).drewN k).heap.size = w.heap.size + 1 := fun o k => by simp
  rw [e2] at hrg0 hs0 ⊢
  have HG : Hid (World.grownBy _ w0 .none) := hg0
  clear hg0 e2
  go_loopw [7] (fun _ wr => ∃ (left : Lit → Bool) (cnt : Nat), Inv5 w wr M B L n c t s wl a b d ttl dl en D left cnt) (fun _ wr => wr.rangeLeft M (w.heap.size + 1))
  case atStart => exact ⟨_, _, Inv5.start HT.out HD.out _ hrg0 HG.out hs0⟩
  case round =>
    obtain ⟨left, cnt, hI⟩ := hrel
    have hrg := hI.rg
    have HI : Hid (Inv5 w _ M B L n c t s wl a b d ttl dl en D left cnt) := hI
    clear hI
    go_wp2_with (first
      | (at_next; refine wpList_next_tab rfl _ rfl M (w.heap.size + 1) L n n D left cnt rfl hrg HD.out HI.out.sub ?_ ?_)
      | go_in)
    · intro hl0
      obtain ⟨⟨q0, q1, q2, q3⟩, ⟨r1, r2, r3, r4⟩, g1, g2, g3, g4⟩ := HI.out.tcells
      have HL : Hid (∀ kl, left kl = false) := hl0
      clear hl0 hrg
      go_wp2
      go_end0
      have T := HT.out
      exact ⟨rfl, HI.out.done T.mb T.bl T.sz T.lt HD.out HL.out 0⟩
    · intro i w1 cnt1 hi hli hrg1 hlt1 hg1 hs1 hen
      have T := HT.out
      obtain ⟨q0, q1, q3, fq, b0⟩ := HI.out.cells T.sz T.lt hg1 hi hli
      have HR : Hid (w1.ranges Try.prog 22 ptrElem M (w.heap.size + 1) n D (fun z => left z && !z.sameKey (.int .u64 (i : Int))) cnt1) := hrg1
      have HG1 : Hid (World.grownBy wr w1 (some (w.heap.size + 1))) := hg1
      have HS1 : Hid (w1.heap.size = wr.heap.size) := hs1
      have HLI : Hid (left (.int .u64 (i : Int)) = true) := hli
      clear hrg1 hg1 hs1 hli T
      cases he : en i
      · rw [he] at q3
        have HE : Hid (en i = false) := he
        clear he
        go_wp2
        go_region
        generalize hx : (if dl i < IntKind.u64.wrap (c + IntKind.u64.wrap (ttl i * 1000)) then IntKind.u64.wrap (c + IntKind.u64.wrap (ttl i * 1000)) else dl i) = x
        have HX : Hid (x = newDl c ttl dl en i) := by
          show x = newDl c ttl dl en i
          rw [← hx]; unfold newDl; rw [HE.out]; simp
        clear hx
        go_wp2
        have HN := HI.out.set HT.out.mb HT.out.bl HT.out.sz HT.out.lt HG1.out HS1.out hi HLI.out HE.out HR.out 1 HX.out
        go_roundw
        case rel => exact ⟨_, _, HN⟩
        case measure =>
          have e := HN.rg.left_eq
          rw [World.drew_is_drewN, e, HI.out.rg.left_eq]; exact hlt1
      · rw [he] at q3
        have HE : Hid (en i = true) := he
        clear he
        go_wp2
        go_roundw
        case rel => exact ⟨_, _, HI.out.skip HT.out.sz HT.out.lt HG1.out HS1.out hi HLI.out HE.out HR.out⟩
        case measure => rw [HR.out.left_eq, HI.out.rg.left_eq]; exact hlt1
end Go.Proofs.Qxb6606085a
