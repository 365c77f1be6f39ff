import Derived.Test.Qxb6606085aNew
import Derived.Test.Qxb6606085aNew7
import Derived.Laws.CopyOwn
import Derived.Deep.DeepCutAuto
namespace Go.Proofs.Qxb6606085a
open Go.RowKit Go.Maps
set_option linter.unusedVariables false

/-- A slice that came in: its first n cells. -/
def In (w : World) (sp : Option Addr) (n : Nat) (f : Nat → Value) : Prop := 0 < n → ∃ ad, sp = some ad ∧ ∀ i, i < n → w.cell? (ad.add i) = some (f i)

theorem In.keep {w w' : World} {sl : Option Addr} {n : Nat} {f : Nat → Value} (h : In w sl n f) (hu : Upto (fun _ => False) w w') : In w' sl n f := by
  intro h0
  obtain ⟨ad, e, hc⟩ := h h0
  exact ⟨ad, e, fun i hi => by rw [hu.cell (p := ad.add i) (block_lt_of_cell (hc i hi)) (fun h => h)]; exact hc i hi⟩

/-- 'zzc := make(.., len(x)); copy(zzc, x)': the copy. -/
theorem wpList_copy_in {P : Program} {w0 : World} {ops : Array Oper} {rest : List Oper} {o : Oper} {a : Act} {Q : Exit → Act → World → Prop} (hgd : o.guard = .none) (d s : Operand) (T e : TypeId)
    (ho : o.op = .call { callee := .builtin .copy, args := #[d, s], argTypes := #[T, T] }) (hu : P.underlying T = some (.slice e)) (hsz : (P.info? e).map (·.size) = some 1)
    (z : Value) (n sCap : Nat) (sp : Option Addr) (f : Nat → Value) (hsrc : In w0 sp n f) (h1 : ∀ i, (f i).oneCell' = true)
    (hd : a.eval d = .slice (some ⟨w0.heap.size, 0, .none⟩) n n) (hs : a.eval s = .slice sp n sCap)
    (h : ∀ w', Upto (fun _ => False) w0 w' → w0.heap.size < w'.heap.size → w'.heap[w0.heap.size]? = some (.cells (rowV n f) e) → wpList P ops Q rest (a.put o.dst (goInt n)) w') :
    wpList P ops Q (o :: rest) a (w0.alloc (.cells (rowV n fun _ => z) e)) := by
  have hl : ((List.range n).map f).length = n := by simp
  refine wpList_copy_splice hgd d s T T ho e hu hsz _ _ n n n sCap hd hs w0.heap.size 0 ((List.range n).map fun _ => z) e (heap_alloc_new w0 _) ((List.range n).map f) (by simp) ?_ (by simp) ?_ w0.heap.size w0 ((Below.refl _ _).alloc (Nat.le_refl _) _) (Nat.le_refl _) ?_
  · intro h0
    refine ⟨rfl, ?_⟩
    obtain ⟨ad, e1, hc⟩ := hsrc (by simpa using h0)
    refine ⟨ad, e1, fun j v hj => ?_⟩
    have hjn : j < n := by have := (List.getElem?_eq_some_iff.1 hj).1; simpa using this
    have hv : v = f j := by simp [hjn] at hj; exact hj.symm
    rw [hv]
    have := hc j hjn
    rw [← this]
    exact World.cell?_of_block (Below.heap_alloc _ _ _ (block_lt_of_cell this))
  · intro v hv
    obtain ⟨i, _, rfl⟩ := List.mem_map.1 hv
    exact h1 i
  · intro w' hr hb
    rw [hl]
    have hr' := hr.out
    have hs : splice ((List.range n).map fun _ => z) 0 ((List.range n).map f) = (List.range n).map f := by simp [splice]
    rw [hs] at hr'
    exact h w' ⟨hb.os, hb.tape, hb.output, hb.size, fun k hk _ => hb.block k hk⟩ (Array.getElem?_eq_some_iff.1 hr').1 hr'

theorem sl_of_row {w : World} {g n : Nat} {f : Nat → Value} {e : TypeId} (h : w.heap[g]? = some (.cells (rowV n f) e)) : Sl w (some ⟨g, 0, .none⟩) n f :=
  fun _ => ⟨g, rfl, (Array.getElem?_eq_some_iff.1 h).1, fun i hi => by rw [cell_of_row w g i _ e (0, 0) h]; exact rowV_get hi⟩

theorem adv_idem (ttl : Nat → Int) (en : Nat → Bool) (x : St) (a b d bk : Int) : adv ttl en (adv ttl en x a b d bk) a b d bk = adv ttl en x a b d bk := by
  have key : ∀ y : St, y.t = a → y.s = b → adv ttl en y a b d bk = y := fun y h1 h2 => by
    unfold adv; rw [if_neg (by omega), if_pos h1.symm, if_neg (by omega)]
  by_cases h1 : a < x.t
  · have e : adv ttl en x a b d bk = x := by unfold adv; rw [if_pos h1]
    rw [e, e]
  by_cases h2 : a = x.t
  · by_cases h3 : x.s < b
    · refine key _ ?_ ?_ <;> (unfold adv; rw [if_neg h1, if_pos h2, if_pos h3])
    · have e : adv ttl en x a b d bk = x := by unfold adv; rw [if_neg h1, if_pos h2, if_neg h3]
      rw [e, e]
  · refine key _ ?_ ?_ <;> (unfold adv; rw [if_neg h1, if_neg h2]; split <;> (try split) <;> (try split) <;> rfl)

set_option maxHeartbeats 1000000 in
set_option maxRecDepth 100000 in
theorem law4 (w : World) (c t s wl a b d bk : Int) (n c1 c2 c3 : Nat) (s1 s2 s3 : Option Addr) (ttl dl : Nat → Int) (en : Nat → Bool)
    (h1 : In w s1 n (fun i => .int .u64 (ttl i))) (h2 : In w s2 n (fun i => .int .u64 (dl i))) (h3 : In w s3 n (fun i => .bool (en i))) (hn : n ≤ 32768) :
    Calls Try.prog 4 #[.int .u64 c, .int .u64 t, .int .u64 s, .int .u64 wl, .slice s1 n c1, .slice s2 n c2, .slice s3 n c3, .int .u64 a, .int .u64 b, .int .u64 d, .int .u64 bk] w fun e w' => e = .returned (.bool true) ∧ Below w.heap.size w w' := by
  have n1 := fun (w : World) a n c => run_neq_slice_nil_any (P := Try.prog) w 23 22 a n c 0 0 Try.underlying23
  have n2 := fun (w : World) a n c => run_neq_slice_nil_any (P := Try.prog) w 24 4 a n c 0 0 Try.underlying24
  have e0 : ((n : Int) != (n : Int)) = false := by simp
  have hm1 := make23 n (by omega)
  have hm2 := make24 n (by omega)
  have H1 : Hid (In w s1 n (fun i => .int .u64 (ttl i))) := h1
  have H2 : Hid (In w s2 n (fun i => .int .u64 (dl i))) := h2
  have H3 : Hid (In w s3 n (fun i => .bool (en i))) := h3
  clear h1 h2 h3
  go_enter Try.func4, Try.ntmps4
  go_upto_if 71 with (go_at_call 13; refine (bytes13 w _ _ _ _ _ _ _ _ s1 s2 s3 n n n c1 c2 c3 (by unfold maxLen; omega) (by unfold maxLen; omega) (by unfold maxLen; omega)).mono ?_; rintro e w' ⟨⟨bb, rfl⟩, hw'⟩; obtain rfl := hw'.symm; clear hw'; cases bb)
  · go_ret
    exact ⟨rfl, Below.refl _ _⟩
  go_cut [4] (fun v4 w1 => ∃ (q : Option Addr) (cc : Nat), v4 = .slice q n cc ∧ Sl w1 q n (fun i => .int .u64 (ttl i)) ∧ Upto (fun _ => False) w w1)
  case first =>
    cases s1 with
    | none =>
      go_wp2
      go_meet
      case rel => exact ⟨.none, c1, rfl, (fun h0 => by obtain ⟨ad, e, _⟩ := H1.out h0; cases e), Upto.refl _ _⟩
    | some ad =>
      go_upto_region 9 with fail
      go_wp2_with (first | (refine wpList_copy_in rfl _ _ 23 22 rfl Try.underlying23 (by kernel_rfl) (.int .u64 0) n c1 (some ad) (fun i => .int .u64 (ttl i)) H1.out (fun _ => rfl) rfl rfl ?_; intro w1 hu1 hz1 hr1))
      go_meet
      case rel => exact ⟨_, n, rfl, sl_of_row hr1, hu1⟩
  case rest =>
  obtain ⟨q1, k1, rfl, hs1, hu1⟩ := hcut
  have HS1 : Hid (Sl wc q1 n (fun i => .int .u64 (ttl i)) ∧ Upto (fun _ => False) w wc) := ⟨hs1, hu1⟩
  clear hs1 hu1
  go_upto_if 80 with fail
  go_cut [5] (fun v5 w1 => ∃ (q : Option Addr) (cc : Nat), v5 = .slice q n cc ∧ Sl w1 q n (fun i => .int .u64 (dl i)) ∧ Upto (fun _ => False) wc w1)
  case first =>
    have hin := H2.out.keep HS1.out.2
    cases s2 with
    | none =>
      go_wp2
      go_meet
      case rel => exact ⟨.none, c2, rfl, (fun h0 => by obtain ⟨ad, e, _⟩ := H2.out h0; cases e), Upto.refl _ _⟩
    | some ad =>
      go_upto_region 13 with fail
      go_wp2_with (first | (refine wpList_copy_in rfl _ _ 23 22 rfl Try.underlying23 (by kernel_rfl) (.int .u64 0) n c2 (some ad) (fun i => .int .u64 (dl i)) hin (fun _ => rfl) rfl rfl ?_; intro w1 hu1 hz1 hr1))
      go_meet
      case rel => exact ⟨_, n, rfl, sl_of_row hr1, hu1⟩
  case rest =>
  obtain ⟨q2, k2, rfl, hs2, hu2⟩ := hcut
  have HS2 : Hid (Sl wc q1 n (fun i => .int .u64 (ttl i)) ∧ Sl wc q2 n (fun i => .int .u64 (dl i)) ∧ Upto (fun _ => False) w wc) := ⟨HS1.out.1.keep hu2, hs2, HS1.out.2.trans hu2⟩
  clear hs2 hu2 HS1
  go_upto_if 89 with fail
  go_cut [6] (fun v6 w1 => ∃ (q : Option Addr) (cc : Nat), v6 = .slice q n cc ∧ Sl w1 q n (fun i => .bool (en i)) ∧ Upto (fun _ => False) wc w1)
  case first =>
    have hin := H3.out.keep HS2.out.2.2
    cases s3 with
    | none =>
      go_wp2
      go_meet
      case rel => exact ⟨.none, c3, rfl, (fun h0 => by obtain ⟨ad, e, _⟩ := H3.out h0; cases e), Upto.refl _ _⟩
    | some ad =>
      go_upto_region 17 with fail
      go_wp2_with (first | (refine wpList_copy_in rfl _ _ 24 4 rfl Try.underlying24 (by kernel_rfl) (.bool false) n c3 (some ad) (fun i => .bool (en i)) hin (fun _ => rfl) rfl rfl ?_; intro w1 hu1 hz1 hr1))
      go_meet
      case rel => exact ⟨_, n, rfl, sl_of_row hr1, hu1⟩
  case rest =>
  obtain ⟨q3, k3, rfl, hs3, hu3⟩ := hcut
  have g1 := HS2.out.1.keep hu3
  have g2 := HS2.out.2.1.keep hu3
  have HU : Hid (Upto (fun _ => False) w wc) := HS2.out.2.2.trans hu3
  have HSS : Hid (Sl wc q1 n (fun i => .int .u64 (ttl i)) ∧ Sl wc q2 n (fun i => .int .u64 (dl i)) ∧ Sl wc q3 n (fun i => .bool (en i))) := ⟨g1, g2, hs3⟩
  clear hs3 hu3 HS2 g1 g2 hm1 hm2 n1 n2 H1 H2 H3
  go_wp2_with fail
  refine (new_any wc c t s wl n (by omega) ttl dl en q1 q2 q3 k1 k2 k3 HSS.out.1 HSS.out.2.1 HSS.out.2.2).mono ?_
  rintro e w7 ⟨rfl, hu7, T⟩
  have U7 : Upto (fun _ => False) w w7 := HU.out.trans hu7
  have hN : w.heap.size ≤ wc.heap.size := HU.out.size
  have z7 := T.sz
  clear HU HSS hu7
  go_wp2_with fail
  refine (zzadv_any (T.calm ((Upto.refl _ w7).alloc _)) a b d bk).mono ?_
  rintro e w8 ⟨rfl, hu8, T8⟩
  have U8 : Upto (fun _ => False) w w8 := (U7.alloc _).andThen hu8 (fun i hi => by left; rcases hi with rfl | ⟨h, _⟩ <;> omega)
  have HA : Hid (adv ttl en (adv ttl en ⟨c, t, s, wl, dl⟩ a b d bk) a b d bk = adv ttl en ⟨c, t, s, wl, dl⟩ a b d bk) := adv_idem _ _ _ _ _ _ _
  generalize adv ttl en ⟨c, t, s, wl, dl⟩ a b d bk = y at T8 HA
  have r8 : w8.heap[w7.heap.size]? = some (.cells #[.int .u64 a, .int .u64 b, .int .u64 d, .int .u64 bk] 29) :=
    (hu8.block _ (by simp) (by rintro (h | ⟨_, h⟩) <;> omega)).trans (heap_alloc_new w7 _)
  have z8 : w7.heap.size < w8.heap.size := (Array.getElem?_eq_some_iff.1 r8).1
  have HR8 : Hid (w8.heap[w7.heap.size]? = some (.cells #[.int .u64 a, .int .u64 b, .int .u64 d, .int .u64 bk] 29)) := r8
  clear r8 hu8 U7 T
  go_wp2_with fail
  refine (clock_any T8).mono ?_
  rintro e w' ⟨rfl, hw'⟩
  obtain rfl := hw'.symm
  clear hw'
  go_wp2_with fail
  refine (last_any T8).mono ?_
  rintro e w' ⟨rfl, rfl⟩
  go_wp2_with fail
  have U9 : Upto (fun _ => False) w8 ((w8.alloc (.cells #[.int .u64 y.t, .int .u64 y.s, .int .u64 y.wl, .int .u64 0] 29)).alloc (.cells #[.int .u64 y.t, .int .u64 y.s, .int .u64 y.wl, .int .u64 0] 29)) := ((Upto.refl _ w8).alloc _).alloc _
  have r9 := heap_alloc2_new w8 (.cells #[.int .u64 y.t, .int .u64 y.s, .int .u64 y.wl, .int .u64 0] 29) (.cells #[.int .u64 y.t, .int .u64 y.s, .int .u64 y.wl, .int .u64 0] 29)
  refine (dls_any (T8.calm U9) (by omega)).mono ?_
  rintro e w14 ⟨rfl, hu14, hr14⟩
  have es : ((w8.alloc (.cells #[.int .u64 y.t, .int .u64 y.s, .int .u64 y.wl, .int .u64 0] 29)).alloc (.cells #[.int .u64 y.t, .int .u64 y.s, .int .u64 y.wl, .int .u64 0] 29)).heap.size = w8.heap.size + 2 := by simp
  rw [es] at hr14 ⊢
  have U14 := U9.trans hu14
  have T14 := T8.calm U14
  have HR14 : Hid (w14.heap[w8.heap.size + 2]? = some (.cells (rowV n (fun i => .int .u64 (y.dl i))) 22) ∧ w14.heap[w7.heap.size]? = some (.cells #[.int .u64 a, .int .u64 b, .int .u64 d, .int .u64 bk] 29) ∧ w14.heap[w8.heap.size + 1]? = some (.cells #[.int .u64 y.t, .int .u64 y.s, .int .u64 y.wl, .int .u64 0] 29)) :=
    ⟨hr14, (U14.block _ z8 (fun h => h)).trans HR8.out, (hu14.block _ (by rw [es]; omega) (fun h => h)).trans r9⟩
  have UW14 : Upto (fun _ => False) w w14 := U8.trans U14
  have p0 : w14.cell? ⟨w7.heap.size, 0, .none⟩ = some (.int .u64 a) := cell_of_row w14 _ 0 _ 29 (0, 0) HR14.out.2.1
  have p1 : w14.cell? ⟨w7.heap.size, 1, .none⟩ = some (.int .u64 b) := cell_of_row w14 _ 1 _ 29 (0, 0) HR14.out.2.1
  have p2 : w14.cell? ⟨w7.heap.size, 2, .none⟩ = some (.int .u64 d) := cell_of_row w14 _ 2 _ 29 (0, 0) HR14.out.2.1
  have p3 : w14.cell? ⟨w7.heap.size, 3, .none⟩ = some (.int .u64 bk) := cell_of_row w14 _ 3 _ 29 (0, 0) HR14.out.2.1
  have z14 : w8.heap.size + 2 < w14.heap.size := (Array.getElem?_eq_some_iff.1 HR14.out.1).1
  clear hr14 es r9 hu14 U9 U14 T8 U8 HR8
  go_wp2_with fail
  refine (zzadv_any T14 a b d bk).mono ?_
  rintro e w15 ⟨rfl, hu15, T15⟩
  rw [HA.out] at T15
  have UW15 : Upto (fun _ => False) w w15 := UW14.andThen hu15 (fun i hi => by left; rcases hi with rfl | ⟨h, _⟩ <;> omega)
  have HR15 : Hid (w15.heap[w8.heap.size + 2]? = some (.cells (rowV n (fun i => .int .u64 (y.dl i))) 22) ∧ w15.heap[w8.heap.size + 1]? = some (.cells #[.int .u64 y.t, .int .u64 y.s, .int .u64 y.wl, .int .u64 0] 29)) :=
    ⟨(hu15.block _ z14 (by rintro (h | ⟨_, h⟩) <;> omega)).trans HR14.out.1, (hu15.block _ (by omega) (by rintro (h | ⟨_, h⟩) <;> omega)).trans HR14.out.2.2⟩
  clear p0 p1 p2 p3 hu15 UW14 T14 HR14
  have x0 : (y.c != y.c) = false := by simp
  go_wp2_with fail
  refine (clock_any T15).mono ?_
  rintro e w' ⟨rfl, hw'⟩
  obtain rfl := hw'.symm
  clear hw'
  go_wp2_with fail
  refine (last_any T15).mono ?_
  rintro e w' ⟨rfl, rfl⟩
  have x1 : (y.t != y.t) = false := by simp
  have x2 : (y.s != y.s) = false := by simp
  have x3 : (y.wl != y.wl) = false := by simp
  have p0 : w15.cell? ⟨w8.heap.size + 1, 0, .none⟩ = some (.int .u64 y.t) := cell_of_row w15 _ 0 _ 29 (0, 0) HR15.out.2
  have p1 : w15.cell? ⟨w8.heap.size + 1, 1, .none⟩ = some (.int .u64 y.s) := cell_of_row w15 _ 1 _ 29 (0, 0) HR15.out.2
  have p2 : w15.cell? ⟨w8.heap.size + 1, 2, .none⟩ = some (.int .u64 y.wl) := cell_of_row w15 _ 2 _ 29 (0, 0) HR15.out.2
  have p3 : w15.cell? ⟨w8.heap.size + 1, 3, .none⟩ = some (.int .u64 0) := cell_of_row w15 _ 3 _ 29 (0, 0) HR15.out.2
  have z15 : w8.heap.size + 1 < w15.heap.size := (Array.getElem?_eq_some_iff.1 HR15.out.2).1
  have z15' : w8.heap.size < w15.heap.size := by omega
  go_wp2_with fail
  have U16 : Upto (fun _ => False) w15 ((w15.alloc (.cells #[.int .u64 y.t, .int .u64 y.s, .int .u64 y.wl, .int .u64 0] 29)).alloc (.cells #[.int .u64 y.t, .int .u64 y.s, .int .u64 y.wl, .int .u64 0] 29)) := ((Upto.refl _ w15).alloc _).alloc _
  refine (given_any (T15.calm U16) (by omega) _ _ ((sl_of_row HR15.out.1).keep U16)).mono ?_
  rintro e w' ⟨rfl, k, rfl⟩
  go_wp2_with fail
  go_ret
  exact ⟨rfl, ((UW15.trans U16).drewN k).below (Nat.le_refl _) (fun _ h => h.elim)⟩
end Go.Proofs.Qxb6606085a
