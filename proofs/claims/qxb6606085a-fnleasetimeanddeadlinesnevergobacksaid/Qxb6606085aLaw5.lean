import Derived.Test.Qxb6606085aIn
import Derived.Test.Qxb6606085aPlain5
namespace Go.Proofs.Qxb6606085a
open Go.RowKit Go.Maps
set_option linter.unusedVariables false

/-- At the head of a round of the script. -/
def Inv (wc wr : World) (P n : Nat) (y : St) (ttl : Nat → Int) (en : Nat → Bool) : Prop :=
  Below wc.heap.size wc wr ∧ TabS wr (wc.heap.size + 1) (wc.heap.size + 2) (wc.heap.size + 3) n y ttl en ∧ wr.heap[P]? = some (.cells (rowV n (fun i => .int .u64 (y.dl i))) 22)

/-- At the head of a round over the leases: the first i of them have been looked at. -/
structure Inv2 (wc w1 wr : World) (P n i : Nat) (y z : St) (ttl : Nat → Int) (en : Nat → Bool) : Prop where
  bl : Below wc.heap.size wc wr
  tab : TabS wr (wc.heap.size + 1) (wc.heap.size + 2) (wc.heap.size + 3) n z ttl en
  row : wr.heap[P]? = some (.cells (rowV n (fun j => .int .u64 (if j < i then z.dl j else y.dl j))) 22)
  last : wr.heap[w1.heap.size + 1]? = some (.cells #[.int .u64 z.t, .int .u64 z.s, .int .u64 z.wl, .int .u64 0] 29)
  sz : P < w1.heap.size

theorem Inv2.set {wc w1 wr : World} {P n i : Nat} {y z : St} {ttl : Nat → Int} {en : Nat → Bool} (h : Inv2 wc w1 wr P n i y z ttl en) (hP : wc.heap.size + 3 + n ≤ P) (hi : i < n) :
    Inv2 wc w1 (wr.setCell ⟨P, i, .none⟩ (.int .u64 (z.dl i))) P n (i + 1) y z ttl en := by
  have hu : Upto (fun k => k = P) wr (wr.setCell ⟨P, i, .none⟩ (.int .u64 (z.dl i))) := Upto.setCell (Upto.refl (fun k => k = P) wr) (p := ⟨P, i, .none⟩) (Or.inr (by rfl)) _
  have hs := h.sz
  have hl : w1.heap.size + 1 < wr.heap.size := (Array.getElem?_eq_some_iff.1 h.last).1
  refine ⟨h.bl.trans (hu.below h.bl.size (fun k hk => by rw [hk]; omega)), h.tab.kept hu (by show wc.heap.size + 2 ≠ P; omega) (by show wc.heap.size + 1 ≠ P; omega) (fun j hj => by show wc.heap.size + 3 + j ≠ P; omega), ?_, (hu.block _ hl (by show w1.heap.size + 1 ≠ P; omega)).trans h.last, hs⟩
  rw [heap_setCell_same _ _ _ _ _ _ h.row, rowV_set]
  congr 2
  apply rowV_congr
  intro j hj
  by_cases e : j = i
  · subst e; rw [if_pos rfl, if_pos (by omega)]
  · rw [if_neg e]
    by_cases e2 : j < i
    · rw [if_pos e2, if_pos (by omega)]
    · rw [if_neg e2, if_neg (by omega)]

set_option maxHeartbeats 4000000 in
set_option maxRecDepth 100000 in
theorem law5 (w : World) (c t s wl : Int) (n c1 c2 c3 m c7 c8 c9 c10 : Nat) (s1 s2 s3 s7 s8 s9 s10 : Option Addr) (ttl dl : Nat → Int) (en : Nat → Bool) (tm sn wa ba : Nat → Int) (hc0 : 0 ≤ c) (hc1 : c ≤ 4611686018427387904) (hs0 : 0 ≤ s) (hw0 : 0 ≤ wl)
    (hnn : ∀ i, i < m → 0 ≤ sn i ∧ 0 ≤ wa i)
    (h1 : In w s1 n (fun i => .int .u64 (ttl i))) (h2 : In w s2 n (fun i => .int .u64 (dl i))) (h3 : In w s3 n (fun i => .bool (en i))) (hn : n ≤ 4096)
    (h7 : In2 w s7 m tm) (h8 : In2 w s8 m sn) (h9 : In2 w s9 m wa) (h10 : In2 w s10 m ba) (hm : m ≤ 4096) :
    Calls Try.prog 5 #[.int .u64 c, .int .u64 t, .int .u64 s, .int .u64 wl, .slice s1 n c1, .slice s2 n c2, .slice s3 n c3, .slice s7 m c7, .slice s8 m c8, .slice s9 m c9, .slice s10 m c10] w fun e w' => e = .returned (.bool true) ∧ Below w.heap.size w w' := by
  have n1 := fun (w : World) a n c => run_neq_slice_nil_any (P := Try.prog) w 23 22 a n c 0 0 Try.underlying23
  have n2 := fun (w : World) a n c => run_neq_slice_nil_any (P := Try.prog) w 24 4 a n c 0 0 Try.underlying24
  have e0 : ((n : Int) != (n : Int)) = false := by simp
  have e1 : ((m : Int) != (m : Int)) = false := by simp
  have hm1 := make23 n (by omega)
  have hm2 := make24 n (by omega)
  have H1 : Hid (In w s1 n (fun i => .int .u64 (ttl i))) := h1
  have H2 : Hid (In w s2 n (fun i => .int .u64 (dl i))) := h2
  have H3 : Hid (In w s3 n (fun i => .bool (en i))) := h3
  have HI : Hid (In2 w s7 m tm ∧ In2 w s8 m sn ∧ In2 w s9 m wa ∧ In2 w s10 m ba) := ⟨h7, h8, h9, h10⟩
  have HC : Hid ((0 ≤ c ∧ c ≤ 4611686018427387904) ∧ 0 ≤ s ∧ 0 ≤ wl) := ⟨⟨hc0, hc1⟩, hs0, hw0⟩
  have HNN : Hid (∀ i, i < m → 0 ≤ sn i ∧ 0 ≤ wa i) := hnn
  clear h1 h2 h3 h7 h8 h9 h10 hs0 hw0 hnn hc0
  go_enter Try.func5, Try.ntmps5
  go_upto_if 115 with (go_at_call 15; refine (bytes15 w _ _ _ _ s1 s2 s3 s7 s8 s9 s10 n n n m m m m c1 c2 c3 c7 c8 c9 c10 (by unfold maxLen; omega) (by unfold maxLen; omega) (by unfold maxLen; omega) (by unfold maxLen; omega) (by unfold maxLen; omega) (by unfold maxLen; omega) (by unfold maxLen; omega)).mono ?_; rintro e w' ⟨⟨bb, rfl⟩, hw'⟩; obtain rfl := hw'.symm; clear hw'; cases bb)
  · go_ret
    exact ⟨rfl, Below.refl _ _⟩
  go_cut [4] (fun v4 w1 => ∃ (q : Option Addr) (cc : Nat), v4 = .slice q n cc ∧ Sl w1 q n (fun i => .int .u64 (ttl i)) ∧ Upto (fun _ => False) w w1)
  case first => as_aux_lemma =>
    cases s1 with
    | none =>
      go_wp2
      go_meet
      case rel => exact ⟨.none, c1, rfl, (fun h0 => by obtain ⟨ad, e, _⟩ := H1.out h0; cases e), Upto.refl _ _⟩
    | some ad =>
      go_upto_region 15 with fail
      go_wp2_with (first | (refine wpList_copy_in rfl _ _ 23 22 rfl Try.underlying23 (by kernel_rfl) (.int .u64 0) n c1 (some ad) (fun i => .int .u64 (ttl i)) H1.out (fun _ => rfl) rfl rfl ?_; intro w1 hu1 hz1 hr1))
      go_meet
      case rel => exact ⟨_, n, rfl, sl_of_row hr1, hu1⟩
  case rest => as_aux_lemma =>
  obtain ⟨q1, k1, rfl, hs1, hu1⟩ := hcut
  have HS1 : Hid (Sl wc q1 n (fun i => .int .u64 (ttl i)) ∧ Upto (fun _ => False) w wc) := ⟨hs1, hu1⟩
  clear hs1 hu1
  go_upto_if 124 with fail
  go_cut [5] (fun v5 w1 => ∃ (q : Option Addr) (cc : Nat), v5 = .slice q n cc ∧ Sl w1 q n (fun i => .int .u64 (dl i)) ∧ Upto (fun _ => False) wc w1)
  case first => as_aux_lemma =>
    have hin := H2.out.keep HS1.out.2
    cases s2 with
    | none =>
      go_wp2
      go_meet
      case rel => exact ⟨.none, c2, rfl, (fun h0 => by obtain ⟨ad, e, _⟩ := H2.out h0; cases e), Upto.refl _ _⟩
    | some ad =>
      go_upto_region 19 with fail
      go_wp2_with (first | (refine wpList_copy_in rfl _ _ 23 22 rfl Try.underlying23 (by kernel_rfl) (.int .u64 0) n c2 (some ad) (fun i => .int .u64 (dl i)) hin (fun _ => rfl) rfl rfl ?_; intro w1 hu1 hz1 hr1))
      go_meet
      case rel => exact ⟨_, n, rfl, sl_of_row hr1, hu1⟩
  case rest => as_aux_lemma =>
  obtain ⟨q2, k2, rfl, hs2, hu2⟩ := hcut
  have HS2 : Hid (Sl wc q1 n (fun i => .int .u64 (ttl i)) ∧ Sl wc q2 n (fun i => .int .u64 (dl i)) ∧ Upto (fun _ => False) w wc) := ⟨HS1.out.1.keep hu2, hs2, HS1.out.2.trans hu2⟩
  clear hs2 hu2 HS1
  go_upto_if 133 with fail
  go_cut [6] (fun v6 w1 => ∃ (q : Option Addr) (cc : Nat), v6 = .slice q n cc ∧ Sl w1 q n (fun i => .bool (en i)) ∧ Upto (fun _ => False) wc w1)
  case first => as_aux_lemma =>
    have hin := H3.out.keep HS2.out.2.2
    cases s3 with
    | none =>
      go_wp2
      go_meet
      case rel => exact ⟨.none, c3, rfl, (fun h0 => by obtain ⟨ad, e, _⟩ := H3.out h0; cases e), Upto.refl _ _⟩
    | some ad =>
      go_upto_region 23 with fail
      go_wp2_with (first | (refine wpList_copy_in rfl _ _ 24 4 rfl Try.underlying24 (by kernel_rfl) (.bool false) n c3 (some ad) (fun i => .bool (en i)) hin (fun _ => rfl) rfl rfl ?_; intro w1 hu1 hz1 hr1))
      go_meet
      case rel => exact ⟨_, n, rfl, sl_of_row hr1, hu1⟩
  case rest => as_aux_lemma =>
  obtain ⟨q3, k3, rfl, hs3, hu3⟩ := hcut
  have g1 := HS2.out.1.keep hu3
  have g2 := HS2.out.2.1.keep hu3
  have HU : Hid (Upto (fun _ => False) w wc) := HS2.out.2.2.trans hu3
  have HSS : Hid (Sl wc q1 n (fun i => .int .u64 (ttl i)) ∧ Sl wc q2 n (fun i => .int .u64 (dl i)) ∧ Sl wc q3 n (fun i => .bool (en i))) := ⟨g1, g2, hs3⟩
  clear hs3 hu3 HS2 g1 g2 hm1 hm2 n1 n2 H1 H2 H3 hc1
  have HB : Hid (Below w.heap.size w wc) := HU.out.below (Nat.le_refl _) (fun _ h => h.elim)
  have hsz : w.heap.size ≤ wc.heap.size := HU.out.size
  have HI2 : Hid (In2 wc s7 m tm ∧ In2 wc s8 m sn ∧ In2 wc s9 m wa ∧ In2 wc s10 m ba) :=
    ⟨HI.out.1.keep (Nat.le_refl _) HB.out, HI.out.2.1.keep (Nat.le_refl _) HB.out, HI.out.2.2.1.keep (Nat.le_refl _) HB.out, HI.out.2.2.2.keep (Nat.le_refl _) HB.out⟩
  clear HI HU
  go_wp2_with fail
  go_loop [26] (fun i => ∃ k : Nat, k ≤ n ∧ i = .int .i64 (k : Int)) (fun i => n - (intOf i).toNat)
  case atStart => exact ⟨0, Nat.zero_le _, rfl⟩
  case round => as_aux_lemma =>
  obtain ⟨k, hk, rfl⟩ := hrel
  by_cases hlt : k < n
  · obtain ⟨P1, rfl, hP1, hcc1⟩ := HSS.out.1 (by omega)
    have q := hcc1 k hlt
    clear hcc1
    have hlt' : (k : Int) < (n : Int) := by omega
    by_cases hle : 4294967296 < ttl k
    · go_wp2
      go_ret
      exact ⟨rfl, HB.out⟩
    · go_wp2
      go_round
      case rel => exact ⟨k + 1, by omega, by go_num⟩
      case measure => simp [intOf]; omega
  obtain rfl : n = k := by omega
  clear hlt hk
  go_wp2_with fail
  go_loop [27] (fun i => ∃ k : Nat, k ≤ m ∧ i = .int .i64 (k : Int) ∧ Hid (∀ j, j < k → sn j ≤ 281474976710656 ∧ wa j ≤ 281474976710656)) (fun i => m - (intOf i).toNat)
  case atStart => exact ⟨0, Nat.zero_le _, rfl, fun j hj => by omega⟩
  case round => as_aux_lemma =>
  obtain ⟨k, hk, rfl, HL⟩ := hrel
  by_cases hlt : k < m
  · obtain ⟨b8, o8, rfl, hb8, hc8⟩ := HI2.out.2.1 (by omega)
    obtain ⟨b9, o9, rfl, hb9, hc9⟩ := HI2.out.2.2.1 (by omega)
    have p8 := hc8 k hlt
    have p9 := hc9 k hlt
    clear hc8 hc9 hb8 hb9
    have hlt' : (k : Int) < (m : Int) := by omega
    by_cases hle : 281474976710656 < sn k
    · go_wp2
      go_ret
      exact ⟨rfl, HB.out⟩
    · by_cases hle2 : 281474976710656 < wa k
      · go_wp2
        go_ret
        exact ⟨rfl, HB.out⟩
      · go_wp2
        go_round
        case rel => exact ⟨k + 1, by omega, by go_num, fun j hj => by
          by_cases e : j = k
          · subst e; exact ⟨by omega, by omega⟩
          · exact HL.out j (by omega)⟩
        case measure => simp [intOf]; omega
  obtain rfl : m = k := by omega
  clear hlt hk
  have HST : Hid (∀ k, k < m → Step ttl en (run ttl en ⟨c, t, s, wl, dl⟩ tm sn wa ba k) (run ttl en ⟨c, t, s, wl, dl⟩ tm sn wa ba (k + 1))) :=
    fun k hk => run_step (x := ⟨c, t, s, wl, dl⟩) hm HC.out.1 HC.out.2.1 HC.out.2.2 (fun i hi => ⟨⟨(HNN.out i hi).1, (HL.out i hi).1⟩, ⟨(HNN.out i hi).2, (HL.out i hi).2⟩⟩) k hk
  clear HL HC HNN
  go_wp2_with fail
  refine (new_any wc c t s wl n (by omega) ttl dl en q1 q2 q3 k1 k2 k3 HSS.out.1 HSS.out.2.1 HSS.out.2.2).mono ?_
  rintro e w7 ⟨rfl, hu7, T7⟩
  have H13 : Hid (Sl wc q1 n (fun i => .int .u64 (ttl i)) ∧ Sl wc q3 n (fun i => .bool (en i))) := ⟨HSS.out.1, HSS.out.2.2⟩
  have B7 : Below wc.heap.size wc w7 := hu7.below (Nat.le_refl _) (fun _ h => h.elim)
  clear HSS hu7
  go_wp2_with fail
  refine (dls_any T7 (by omega)).mono ?_
  rintro e w8 ⟨rfl, hu8, hr8⟩
  have z7 := T7.sz
  have z8 : w7.heap.size < w8.heap.size := (Array.getElem?_eq_some_iff.1 hr8).1
  generalize hP : w7.heap.size = P at hr8 z7 z8 ⊢
  have H8 : Hid (Below wc.heap.size wc w8 ∧ TabS w8 (wc.heap.size + 1) (wc.heap.size + 2) (wc.heap.size + 3) n ⟨c, t, s, wl, dl⟩ ttl en ∧ w8.heap[P]? = some (.cells (rowV n (fun i => .int .u64 (dl i))) 22)) :=
    ⟨B7.trans ((hu8.below (Nat.le_refl _) (fun _ h => h.elim)).mono B7.size), T7.calm hu8, hr8⟩
  clear B7 T7 hu8 hr8 hP z8
  go_wp2_with fail
  go_loopw [30, 31, 32] (fun v30 v31 i wr => ∃ k : Nat, k ≤ m ∧ i = .int .i64 (k : Int) ∧ v30 = .int .u64 (run ttl en ⟨c, t, s, wl, dl⟩ tm sn wa ba k).c ∧ v31 = .int .u64 (run ttl en ⟨c, t, s, wl, dl⟩ tm sn wa ba k).t ∧
      Inv wc wr P n (run ttl en ⟨c, t, s, wl, dl⟩ tm sn wa ba k) ttl en) (fun _ _ i _ => m - (intOf i).toNat)
  case atStart => exact ⟨0, Nat.zero_le _, rfl, rfl, rfl, H8.out.1, H8.out.2.1, H8.out.2.2⟩
  case round => as_aux_lemma =>
  clear H8
  obtain ⟨k, hk, rfl, rfl, rfl, hI⟩ := hrel
  by_cases hlt : k < m
  · have HSk : Hid (Step ttl en (run ttl en ⟨c, t, s, wl, dl⟩ tm sn wa ba k) (run ttl en ⟨c, t, s, wl, dl⟩ tm sn wa ba (k + 1))) := HST.out k hlt
    have HE : Hid (run ttl en ⟨c, t, s, wl, dl⟩ tm sn wa ba (k + 1) = adv ttl en (run ttl en ⟨c, t, s, wl, dl⟩ tm sn wa ba k) (tm k) (sn k) (wa k) (ba k)) := rfl
    generalize run ttl en ⟨c, t, s, wl, dl⟩ tm sn wa ba k = y at HSk HE hI ⊢
    generalize hz : run ttl en ⟨c, t, s, wl, dl⟩ tm sn wa ba (k + 1) = z at HSk HE
    have HZ : Hid (run ttl en ⟨c, t, s, wl, dl⟩ tm sn wa ba (k + 1) = z) := hz
    clear hz HST
    obtain ⟨hbl, T, hrow⟩ := hI
    obtain ⟨b7, o7, rfl, hb7, hc7⟩ := HI2.out.1 (by omega)
    obtain ⟨b8, o8, rfl, hb8, hc8⟩ := HI2.out.2.1 (by omega)
    obtain ⟨b9, o9, rfl, hb9, hc9⟩ := HI2.out.2.2.1 (by omega)
    obtain ⟨b10, o10, rfl, hb10, hc10⟩ := HI2.out.2.2.2 (by omega)
    have p7 : wr.cell? ⟨b7, o7 + k, .none⟩ = some (.int .u64 (tm k)) := by rw [hbl.cell (p := ⟨b7, o7 + k, .none⟩) hb7]; exact hc7 k hlt
    have p8 : wr.cell? ⟨b8, o8 + k, .none⟩ = some (.int .u64 (sn k)) := by rw [hbl.cell (p := ⟨b8, o8 + k, .none⟩) hb8]; exact hc8 k hlt
    have p9 : wr.cell? ⟨b9, o9 + k, .none⟩ = some (.int .u64 (wa k)) := by rw [hbl.cell (p := ⟨b9, o9 + k, .none⟩) hb9]; exact hc9 k hlt
    have p10 : wr.cell? ⟨b10, o10 + k, .none⟩ = some (.int .u64 (ba k)) := by rw [hbl.cell (p := ⟨b10, o10 + k, .none⟩) hb10]; exact hc10 k hlt
    clear hc7 hc8 hc9 hc10
    have hlt' : (k : Int) < (m : Int) := by omega
    have HA : Hid (Calls Try.prog 8 #[.pointer (some ⟨wc.heap.size + 2, 0, .none⟩), .agg #[.int .u64 (tm k), .int .u64 (sn k), .int .u64 (wa k), .int .u64 (ba k)]] wr.drew fun e w' => e = .returned (.tuple #[]) ∧
        (Below wc.heap.size wc w' ∧ TabS w' (wc.heap.size + 1) (wc.heap.size + 2) (wc.heap.size + 3) n z ttl en ∧ w'.heap[P]? = some (.cells (rowV n (fun i => .int .u64 (y.dl i))) 22)) ∧
        (w'.cell? ⟨b7, o7 + k, .none⟩ = some (.int .u64 (tm k)) ∧ w'.cell? ⟨b8, o8 + k, .none⟩ = some (.int .u64 (sn k)) ∧ w'.cell? ⟨b9, o9 + k, .none⟩ = some (.int .u64 (wa k)) ∧ w'.cell? ⟨b10, o10 + k, .none⟩ = some (.int .u64 (ba k)))) := by
      refine (zzadv_any (T.calm ((Upto.refl _ wr).drew)) (tm k) (sn k) (wa k) (ba k)).mono ?_
      rintro e w' ⟨rfl, hu, T'⟩
      rw [← HE.out] at T'
      have hb : Below wc.heap.size wr w' := (Below.refl _ _).drew.trans (hu.below hbl.size (fun i hi => by rcases hi with rfl | ⟨h, _⟩ <;> omega))
      have hzP : P < wr.heap.size := (Array.getElem?_eq_some_iff.1 hrow).1
      refine ⟨rfl, ⟨hbl.trans hb, T', ?_⟩, ?_, ?_, ?_, ?_⟩
      · exact (hu.block P hzP (by rintro (h | ⟨_, h⟩) <;> omega)).trans hrow
      · rw [hb.cell (p := ⟨b7, o7 + k, .none⟩) hb7]; exact p7
      · rw [hb.cell (p := ⟨b8, o8 + k, .none⟩) hb8]; exact p8
      · rw [hb.cell (p := ⟨b9, o9 + k, .none⟩) hb9]; exact p9
      · rw [hb.cell (p := ⟨b10, o10 + k, .none⟩) hb10]; exact p10
    clear T hbl hrow
    go_wp2_with fail
    go_region_held (fun w' => w'.cell? ⟨b7, o7 + k, .none⟩ = some (.int .u64 (tm k)) ∧ w'.cell? ⟨b8, o8 + k, .none⟩ = some (.int .u64 (sn k)) ∧ w'.cell? ⟨b9, o9 + k, .none⟩ = some (.int .u64 (wa k)) ∧ w'.cell? ⟨b10, o10 + k, .none⟩ = some (.int .u64 (ba k))) (first | exact hcs | go_keep)
      (first | (go_at_call 8; refine HA.out.mono ?_; rintro e w1 ⟨rfl, hnew, hcs⟩))
    obtain ⟨hbl, T1, hrow⟩ := hnew
    clear hcs p7 p8 p9 p10 HA HE hb7 hb8 hb9 hb10
    have zP : P < w1.heap.size := (Array.getElem?_eq_some_iff.1 hrow).1
    have HR : Hid (Below wc.heap.size wc w1 ∧ w1.heap[P]? = some (.cells (rowV n (fun i => .int .u64 (y.dl i))) 22)) := ⟨hbl, hrow⟩
    clear hbl hrow
    go_wp2_with fail
    refine (clock_any T1).mono ?_
    rintro e w' ⟨rfl, hw'⟩
    obtain rfl := hw'.symm
    clear hw'
    go_wp2_with fail
    refine (last_any T1).mono ?_
    rintro e w' ⟨rfl, rfl⟩
    have x1 : y.c ≤ z.c := HSk.out.c
    have x2 : y.t ≤ z.t := HSk.out.t
    have r2 := heap_alloc2_new w1 (.cells #[.int .u64 z.t, .int .u64 z.s, .int .u64 z.wl, .int .u64 0] 29) (.cells #[.int .u64 z.t, .int .u64 z.s, .int .u64 z.wl, .int .u64 0] 29)
    have U2 : Upto (fun _ => False) w1 ((w1.alloc (.cells #[.int .u64 z.t, .int .u64 z.s, .int .u64 z.wl, .int .u64 0] 29)).alloc (.cells #[.int .u64 z.t, .int .u64 z.s, .int .u64 z.wl, .int .u64 0] 29)) := ((Upto.refl _ _).alloc _).alloc _
    have HR2 : Hid (Inv2 wc w1 ((w1.alloc (.cells #[.int .u64 z.t, .int .u64 z.s, .int .u64 z.wl, .int .u64 0] 29)).alloc (.cells #[.int .u64 z.t, .int .u64 z.s, .int .u64 z.wl, .int .u64 0] 29)) P n 0 y z ttl en) :=
      ⟨HR.out.1.trans ((U2.below (Nat.le_refl _) (fun _ h => h.elim)).mono HR.out.1.size), T1.calm U2, by rw [U2.block P zP (fun h => h), HR.out.2]; simp, r2, zP⟩
    clear r2 U2 HR T1
    go_wp2_with fail
    go_loopw [35] (fun v wr2 => ∃ i : Nat, i ≤ n ∧ v = .int .i64 (i : Int) ∧ Inv2 wc w1 wr2 P n i y z ttl en) (fun v _ => n - (intOf v).toNat)
    case atStart => exact ⟨0, Nat.zero_le _, rfl, HR2.out⟩
    case round => as_aux_lemma =>
      clear HR2 x1 x2
      obtain ⟨i, hi, rfl, hJ⟩ := hrel
      have HJ : Hid (Inv2 wc w1 wr P n i y z ttl en) := hJ
      by_cases hlt2 : i < n
      · have T2 := hJ.tab
        have v1 : wr.cell? ⟨P, i, .none⟩ = some (.int .u64 (y.dl i)) := by rw [cell_of_row wr _ i _ 22 (0, 0) hJ.row, rowV_get hlt2]; simp
        have v2 : wr.frozen? ⟨P, i, .none⟩ = false := frozen_of_row wr _ i _ 22 hJ.row
        obtain ⟨P1, rfl, _, g1⟩ := (H13.out.1.keepB hJ.bl) (by omega)
        obtain ⟨P3, rfl, _, g3⟩ := (H13.out.2.keepB hJ.bl) (by omega)
        have v3 : wr.cell? ⟨P1, i, .none⟩ = some (.int .u64 (ttl i)) := g1 i hlt2
        have v4 : wr.cell? ⟨P3, i, .none⟩ = some (.bool (en i)) := g3 i hlt2
        clear g1 g3 hJ
        have hlt2' : (i : Int) < (n : Int) := by omega
        have hwk := wrap_nat (k := i) (by omega)
        have hd := dead_any T2 i hlt2 (by omega)
        have HN : Hid (Inv2 wc w1 (wr.setCell ⟨P, i, .none⟩ (.int .u64 (z.dl i))) P n (i + 1) y z ttl en) := HJ.out.set z7 hlt2
        by_cases e : z.dl i = y.dl i
        · rw [e] at hd HN
          have HDD : Hid (Calls Try.prog 16 #[.pointer (some ⟨wc.heap.size + 2, 0, .none⟩), .int .u64 (i : Int)] wr fun e w' => e = .returned (.int .u64 (y.dl i)) ∧ w' = wr) := hd
          clear hd e T2
          have x1 : (y.dl i != y.dl i) = false := by simp
          generalize y.dl i = dp at v1 HN HDD x1 ⊢
          go_wp2_with (first | (go_at_call 16; refine HDD.out.mono ?_; rintro e w' ⟨rfl, hw'⟩; obtain rfl := hw'.symm; clear hw'))
          go_roundw
          case rel => exact ⟨i + 1, by omega, by go_num, HN.out⟩
          case measure => simp [intOf]; omega
        · have hle : y.dl i ≤ z.dl i := HSk.out.dl i
          obtain ⟨f1, f2, f3⟩ := HSk.out.ch i e
          rw [f1] at v4
          have x1 : (z.dl i != y.dl i) = true := by simp [e]
          have x2 : (z.c != y.c) = false := by simp [f2]
          have x3 : (z.dl i != IntKind.u64.wrap (z.c + IntKind.u64.wrap (ttl i * 1000))) = false := by rw [← f3]; simp
          have HDD : Hid (Calls Try.prog 16 #[.pointer (some ⟨wc.heap.size + 2, 0, .none⟩), .int .u64 (i : Int)] wr fun e w' => e = .returned (.int .u64 (z.dl i)) ∧ w' = wr) := hd
          clear hd e T2 f1 f2 f3
          generalize z.dl i = dn at HN HDD x1 x3 hle ⊢
          generalize y.dl i = dp at v1 x1 hle ⊢
          go_wp2_with (first | (go_at_call 16; refine HDD.out.mono ?_; rintro e w' ⟨rfl, hw'⟩; obtain rfl := hw'.symm; clear hw'))
          go_roundw
          case rel => exact ⟨i + 1, by omega, by go_num, HN.out⟩
          case measure => simp [intOf]; omega
      · obtain rfl : n = i := by omega
        have l0 : wr.cell? ⟨w1.heap.size + 1, 0, .none⟩ = some (.int .u64 z.t) := cell_of_row wr _ 0 _ 29 (0, 0) hJ.last
        clear hJ
        go_wp2
        go_roundw
        case rel =>
          refine ⟨k + 1, by omega, by go_num, by rw [HZ.out], by rw [HZ.out], ?_⟩
          rw [HZ.out]
          refine ⟨HJ.out.bl, HJ.out.tab, ?_⟩
          rw [HJ.out.row]
          congr 2
          apply rowV_congr
          intro j hj
          rw [if_pos hj]
        case measure => simp [intOf]; omega
  obtain rfl : m = k := by omega
  obtain ⟨hbl, T, _⟩ := hI
  have x1 : ((n : Int) == (n : Int)) = true := by simp
  go_wp2_with fail
  refine (count_any T).mono ?_
  rintro e w' ⟨rfl, hw'⟩
  obtain rfl := hw'.symm
  clear hw'
  go_wp2_with fail
  go_ret
  exact ⟨rfl, HB.out.trans (hbl.mono hsz)⟩
end Go.Proofs.Qxb6606085a
