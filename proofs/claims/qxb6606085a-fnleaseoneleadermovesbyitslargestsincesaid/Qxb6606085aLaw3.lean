import Derived.Test.Qxb6606085aIn
import Derived.Test.Qxb6606085aPlain
namespace Go.Proofs.Qxb6606085a
open Go.RowKit Go.Maps
set_option linter.unusedVariables false

set_option maxHeartbeats 4000000 in
set_option maxRecDepth 100000 in
theorem law3 (w : World) (c t s wl : Int) (n c1 c2 c3 m c7 c8 c9 c10 : Nat) (s1 s2 s3 s7 s8 s9 s10 : Option Addr) (ttl dl : Nat → Int) (en : Nat → Bool) (tm sn wa ba : Nat → Int) (hc : 0 ≤ c ∧ c < 18446744073709551616)
    (h1 : In w s1 n (fun i => .int .u64 (ttl i))) (h2 : In w s2 n (fun i => .int .u64 (dl i))) (h3 : In w s3 n (fun i => .bool (en i))) (hn : n ≤ 32768)
    (h7 : In2 w s7 m tm) (h8 : In2 w s8 m sn) (h9 : In2 w s9 m wa) (h10 : In2 w s10 m ba) (hm : m ≤ 8192) :
    Calls Try.prog 3 #[.int .u64 c, .int .u64 t, .int .u64 s, .int .u64 wl, .slice s1 n c1, .slice s2 n c2, .slice s3 n c3, .slice s7 m c7, .slice s8 m c8, .slice s9 m c9, .slice s10 m c10] w fun e w' => e = .returned (.bool true) ∧ Below w.heap.size w w' := by
  have n1 := fun (w : World) a n c => run_neq_slice_nil_any (P := Try.prog) w 23 22 a n c 0 0 Try.underlying23
  have n2 := fun (w : World) a n c => run_neq_slice_nil_any (P := Try.prog) w 24 4 a n c 0 0 Try.underlying24
  have e0 : ((n : Int) != (n : Int)) = false := by simp
  have e1 : ((m : Int) != (m : Int)) = false := by simp
  have hm1 := make23 n (by omega)
  have hm2 := make24 n (by omega)
  have H1 : Hid (In w s1 n (fun i => .int .u64 (ttl i))) := h1
  have H2 : Hid (In w s2 n (fun i => .int .u64 (dl i))) := h2
  have H3 : Hid (In w s3 n (fun i => .bool (en i))) := h3
  have HI : Hid (In2 w s7 m tm ∧ In2 w s8 m sn ∧ In2 w s9 m wa ∧ In2 w s10 m ba) := ⟨h7, h8, h9, h10⟩
  have HC : Hid (0 ≤ c ∧ c < 18446744073709551616) := hc
  clear h1 h2 h3 h7 h8 h9 h10 hc
  go_enter Try.func3, Try.ntmps3
  go_upto_if 109 with (go_at_call 6; refine (bytes6 w _ _ _ _ s1 s2 s3 s7 s8 s9 s10 n n n m m m m c1 c2 c3 c7 c8 c9 c10 (by unfold maxLen; omega) (by unfold maxLen; omega) (by unfold maxLen; omega) (by unfold maxLen; omega) (by unfold maxLen; omega) (by unfold maxLen; omega) (by unfold maxLen; omega)).mono ?_; rintro e w' ⟨⟨bb, rfl⟩, hw'⟩; obtain rfl := hw'.symm; clear hw'; cases bb)
  · go_ret
    exact ⟨rfl, Below.refl _ _⟩
  go_cut [4] (fun v4 w1 => ∃ (q : Option Addr) (cc : Nat), v4 = .slice q n cc ∧ Sl w1 q n (fun i => .int .u64 (ttl i)) ∧ Upto (fun _ => False) w w1)
  case first => as_aux_lemma =>
    cases s1 with
    | none =>
      go_wp2
      go_meet
      case rel => exact ⟨.none, c1, rfl, (fun h0 => by obtain ⟨ad, e, _⟩ := H1.out h0; cases e), Upto.refl _ _⟩
    | some ad =>
      go_upto_region 13 with fail
      go_wp2_with (first | (refine wpList_copy_in rfl _ _ 23 22 rfl Try.underlying23 (by kernel_rfl) (.int .u64 0) n c1 (some ad) (fun i => .int .u64 (ttl i)) H1.out (fun _ => rfl) rfl rfl ?_; intro w1 hu1 hz1 hr1))
      go_meet
      case rel => exact ⟨_, n, rfl, sl_of_row hr1, hu1⟩
  case rest => as_aux_lemma =>
  obtain ⟨q1, k1, rfl, hs1, hu1⟩ := hcut
  have HS1 : Hid (Sl wc q1 n (fun i => .int .u64 (ttl i)) ∧ Upto (fun _ => False) w wc) := ⟨hs1, hu1⟩
  clear hs1 hu1
  go_upto_if 118 with fail
  go_cut [5] (fun v5 w1 => ∃ (q : Option Addr) (cc : Nat), v5 = .slice q n cc ∧ Sl w1 q n (fun i => .int .u64 (dl i)) ∧ Upto (fun _ => False) wc w1)
  case first => as_aux_lemma =>
    have hin := H2.out.keep HS1.out.2
    cases s2 with
    | none =>
      go_wp2
      go_meet
      case rel => exact ⟨.none, c2, rfl, (fun h0 => by obtain ⟨ad, e, _⟩ := H2.out h0; cases e), Upto.refl _ _⟩
    | some ad =>
      go_upto_region 17 with fail
      go_wp2_with (first | (refine wpList_copy_in rfl _ _ 23 22 rfl Try.underlying23 (by kernel_rfl) (.int .u64 0) n c2 (some ad) (fun i => .int .u64 (dl i)) hin (fun _ => rfl) rfl rfl ?_; intro w1 hu1 hz1 hr1))
      go_meet
      case rel => exact ⟨_, n, rfl, sl_of_row hr1, hu1⟩
  case rest => as_aux_lemma =>
  obtain ⟨q2, k2, rfl, hs2, hu2⟩ := hcut
  have HS2 : Hid (Sl wc q1 n (fun i => .int .u64 (ttl i)) ∧ Sl wc q2 n (fun i => .int .u64 (dl i)) ∧ Upto (fun _ => False) w wc) := ⟨HS1.out.1.keep hu2, hs2, HS1.out.2.trans hu2⟩
  clear hs2 hu2 HS1
  go_upto_if 127 with fail
  go_cut [6] (fun v6 w1 => ∃ (q : Option Addr) (cc : Nat), v6 = .slice q n cc ∧ Sl w1 q n (fun i => .bool (en i)) ∧ Upto (fun _ => False) wc w1)
  case first => as_aux_lemma =>
    have hin := H3.out.keep HS2.out.2.2
    cases s3 with
    | none =>
      go_wp2
      go_meet
      case rel => exact ⟨.none, c3, rfl, (fun h0 => by obtain ⟨ad, e, _⟩ := H3.out h0; cases e), Upto.refl _ _⟩
    | some ad =>
      go_upto_region 21 with fail
      go_wp2_with (first | (refine wpList_copy_in rfl _ _ 24 4 rfl Try.underlying24 (by kernel_rfl) (.bool false) n c3 (some ad) (fun i => .bool (en i)) hin (fun _ => rfl) rfl rfl ?_; intro w1 hu1 hz1 hr1))
      go_meet
      case rel => exact ⟨_, n, rfl, sl_of_row hr1, hu1⟩
  case rest => as_aux_lemma =>
  obtain ⟨q3, k3, rfl, hs3, hu3⟩ := hcut
  have g1 := HS2.out.1.keep hu3
  have g2 := HS2.out.2.1.keep hu3
  have HU : Hid (Upto (fun _ => False) w wc) := HS2.out.2.2.trans hu3
  have HSS : Hid (Sl wc q1 n (fun i => .int .u64 (ttl i)) ∧ Sl wc q2 n (fun i => .int .u64 (dl i)) ∧ Sl wc q3 n (fun i => .bool (en i))) := ⟨g1, g2, hs3⟩
  clear hs3 hu3 HS2 g1 g2 hm1 hm2 n1 n2 H1 H2 H3
  have HB : Hid (Below w.heap.size w wc) := HU.out.below (Nat.le_refl _) (fun _ h => h.elim)
  have hsz : w.heap.size ≤ wc.heap.size := HU.out.size
  have HI2 : Hid (In2 wc s7 m tm ∧ In2 wc s8 m sn ∧ In2 wc s9 m wa ∧ In2 wc s10 m ba) :=
    ⟨HI.out.1.keep (Nat.le_refl _) HB.out, HI.out.2.1.keep (Nat.le_refl _) HB.out, HI.out.2.2.1.keep (Nat.le_refl _) HB.out, HI.out.2.2.2.keep (Nat.le_refl _) HB.out⟩
  clear HI HU
  go_wp2_with fail
  go_loop [26] (fun i => ∃ k : Nat, k ≤ m ∧ i = .int .i64 (k : Int) ∧ Hid (∀ j, j < k → tm j ≤ t)) (fun i => m - (intOf i).toNat)
  case atStart => exact ⟨0, Nat.zero_le _, rfl, fun j hj => by omega⟩
  case round => as_aux_lemma =>
  obtain ⟨k, hk, rfl, HL⟩ := hrel
  by_cases hlt : k < m
  · obtain ⟨b7, o7, rfl, hb7, hc7⟩ := HI2.out.1 (by omega)
    have q7 := hc7 k hlt
    clear hc7
    have hlt' : (k : Int) < (m : Int) := by omega
    by_cases hle : tm k ≤ t
    · go_wp2
      go_round
      case rel => exact ⟨k + 1, by omega, by go_num, fun j hj => by
        by_cases e : j = k
        · subst e; exact hle
        · exact HL.out j (by omega)⟩
      case measure => simp [intOf]; omega
    · go_wp2
      go_ret
      exact ⟨rfl, HB.out⟩
  obtain rfl : m = k := by omega
  clear hlt hk
  go_wp2_with fail
  refine (new_any wc c t s wl n (by omega) ttl dl en q1 q2 q3 k1 k2 k3 HSS.out.1 HSS.out.2.1 HSS.out.2.2).mono ?_
  rintro e w7 ⟨rfl, hu7, T7⟩
  have B7 : Below wc.heap.size wc w7 := hu7.below (Nat.le_refl _) (fun _ h => h.elim)
  have HS2 : Hid (Sl wc q2 n (fun i => .int .u64 (dl i))) := HSS.out.2.1
  have H7 : Hid (Below wc.heap.size wc w7 ∧ TabS w7 (wc.heap.size + 1) (wc.heap.size + 2) (wc.heap.size + 3) n ⟨c, t, s, wl, dl⟩ ttl en) := ⟨B7, T7⟩
  clear hu7 T7 B7 HSS
  go_wp2_with fail
  go_loopw [28] (fun i wr => ∃ k : Nat, k ≤ m ∧ i = .int .i64 (k : Int) ∧ Below wc.heap.size wc wr ∧ TabS wr (wc.heap.size + 1) (wc.heap.size + 2) (wc.heap.size + 3) n (run ttl en ⟨c, t, s, wl, dl⟩ tm sn wa ba k) ttl en) (fun i _ => m - (intOf i).toNat)
  case atStart => exact ⟨0, Nat.zero_le _, rfl, H7.out.1, H7.out.2⟩
  case round => as_aux_lemma =>
  clear H7
  obtain ⟨k, hk, rfl, hbl, T⟩ := hrel
  by_cases hlt : k < m
  · obtain ⟨b7, o7, rfl, hb7, hc7⟩ := HI2.out.1 (by omega)
    obtain ⟨b8, o8, rfl, hb8, hc8⟩ := HI2.out.2.1 (by omega)
    obtain ⟨b9, o9, rfl, hb9, hc9⟩ := HI2.out.2.2.1 (by omega)
    obtain ⟨b10, o10, rfl, hb10, hc10⟩ := HI2.out.2.2.2 (by omega)
    have p7 : wr.cell? ⟨b7, o7 + k, .none⟩ = some (.int .u64 (tm k)) := by rw [hbl.cell (p := ⟨b7, o7 + k, .none⟩) hb7]; exact hc7 k hlt
    have p8 : wr.cell? ⟨b8, o8 + k, .none⟩ = some (.int .u64 (sn k)) := by rw [hbl.cell (p := ⟨b8, o8 + k, .none⟩) hb8]; exact hc8 k hlt
    have p9 : wr.cell? ⟨b9, o9 + k, .none⟩ = some (.int .u64 (wa k)) := by rw [hbl.cell (p := ⟨b9, o9 + k, .none⟩) hb9]; exact hc9 k hlt
    have p10 : wr.cell? ⟨b10, o10 + k, .none⟩ = some (.int .u64 (ba k)) := by rw [hbl.cell (p := ⟨b10, o10 + k, .none⟩) hb10]; exact hc10 k hlt
    clear hc7 hc8 hc9 hc10
    have hlt' : (k : Int) < (m : Int) := by omega
    have HA : Hid (Calls Try.prog 8 #[.pointer (some ⟨wc.heap.size + 2, 0, .none⟩), .agg #[.int .u64 (tm k), .int .u64 (sn k), .int .u64 (wa k), .int .u64 (ba k)]] wr.drew fun e w' => e = .returned (.tuple #[]) ∧
        (Below wc.heap.size wc w' ∧ TabS w' (wc.heap.size + 1) (wc.heap.size + 2) (wc.heap.size + 3) n (run ttl en ⟨c, t, s, wl, dl⟩ tm sn wa ba (k + 1)) ttl en) ∧
        (w'.cell? ⟨b7, o7 + k, .none⟩ = some (.int .u64 (tm k)) ∧ w'.cell? ⟨b8, o8 + k, .none⟩ = some (.int .u64 (sn k)) ∧ w'.cell? ⟨b9, o9 + k, .none⟩ = some (.int .u64 (wa k)) ∧ w'.cell? ⟨b10, o10 + k, .none⟩ = some (.int .u64 (ba k)))) := by
      refine (zzadv_any (T.calm ((Upto.refl _ wr).drew)) (tm k) (sn k) (wa k) (ba k)).mono ?_
      rintro e w' ⟨rfl, hu, T'⟩
      have hb : Below wc.heap.size wr w' := (Below.refl _ _).drew.trans (hu.below hbl.size (fun i hi => by rcases hi with rfl | ⟨h, _⟩ <;> omega))
      refine ⟨rfl, ⟨hbl.trans hb, T'⟩, ?_, ?_, ?_, ?_⟩
      · rw [hb.cell (p := ⟨b7, o7 + k, .none⟩) hb7]; exact p7
      · rw [hb.cell (p := ⟨b8, o8 + k, .none⟩) hb8]; exact p8
      · rw [hb.cell (p := ⟨b9, o9 + k, .none⟩) hb9]; exact p9
      · rw [hb.cell (p := ⟨b10, o10 + k, .none⟩) hb10]; exact p10
    clear T hbl
    go_wp2_with fail
    go_region_held (fun w' => w'.cell? ⟨b7, o7 + k, .none⟩ = some (.int .u64 (tm k)) ∧ w'.cell? ⟨b8, o8 + k, .none⟩ = some (.int .u64 (sn k)) ∧ w'.cell? ⟨b9, o9 + k, .none⟩ = some (.int .u64 (wa k)) ∧ w'.cell? ⟨b10, o10 + k, .none⟩ = some (.int .u64 (ba k))) (first | exact hcs | go_keep)
      (first | (go_at_call 8; refine HA.out.mono ?_; rintro e w' ⟨rfl, hnew, hcs⟩))
    go_wp2
    go_roundw
    case rel => exact ⟨k + 1, by omega, by go_num, hnew⟩
    case measure => simp [intOf]; omega
  obtain rfl : m = k := by omega
  clear hlt hk
  have HL3 := run_low (ttl := ttl) (en := en) (x := ⟨c, t, s, wl, dl⟩) (sn := sn) (wa := wa) (ba := ba) HC.out m HL.out
  have Htop : Hid (∀ j, j < m → (run ttl en ⟨c, t, s, wl, dl⟩ tm sn wa ba (j + 1)).s = if tm j = t ∧ (run ttl en ⟨c, t, s, wl, dl⟩ tm sn wa ba j).s < sn j then sn j else (run ttl en ⟨c, t, s, wl, dl⟩ tm sn wa ba j).s) :=
    fun j hj => run_top (x := ⟨c, t, s, wl, dl⟩) HC.out (fun i hi => HL.out i (by omega))
  have HLow : Hid (Low ⟨c, t, s, wl, dl⟩ tm sn wa m (run ttl en ⟨c, t, s, wl, dl⟩ tm sn wa ba m)) := HL3
  clear HL3 HL HC
  have HT : Hid (Below wc.heap.size wc wr ∧ TabS wr (wc.heap.size + 1) (wc.heap.size + 2) (wc.heap.size + 3) n (run ttl en ⟨c, t, s, wl, dl⟩ tm sn wa ba m) ttl en) := ⟨hbl, T⟩
  have HI3 : Hid (In2 wr s7 m tm ∧ In2 wr s8 m sn ∧ In2 wr s9 m wa) := ⟨HI2.out.1.keep (Nat.le_refl _) hbl, HI2.out.2.1.keep (Nat.le_refl _) hbl, HI2.out.2.2.1.keep (Nat.le_refl _) hbl⟩
  clear hbl T HI2
  go_wp2_with fail
  go_loop [29, 30] (fun v i => ∃ k : Nat, k ≤ m ∧ i = .int .i64 (k : Int) ∧ v = .int .u64 (run ttl en ⟨c, t, s, wl, dl⟩ tm sn wa ba k).s) (fun _ i => m - (intOf i).toNat)
  case atStart => exact ⟨0, Nat.zero_le _, rfl, rfl⟩
  case round => as_aux_lemma =>
  obtain ⟨k, hk, rfl, rfl⟩ := hrel
  by_cases hlt : k < m
  · obtain ⟨b7, o7, rfl, hb7, hc7⟩ := HI3.out.1 (by omega)
    obtain ⟨b8, o8, rfl, hb8, hc8⟩ := HI3.out.2.1 (by omega)
    have p7 := hc7 k hlt
    have p8 := hc8 k hlt
    clear hc7 hc8 hb7 hb8
    have hlt' : (k : Int) < (m : Int) := by omega
    have HN : Hid ((run ttl en ⟨c, t, s, wl, dl⟩ tm sn wa ba (k + 1)).s = if tm k = t ∧ (run ttl en ⟨c, t, s, wl, dl⟩ tm sn wa ba k).s < sn k then sn k else (run ttl en ⟨c, t, s, wl, dl⟩ tm sn wa ba k).s) := Htop.out k hlt
    generalize (run ttl en ⟨c, t, s, wl, dl⟩ tm sn wa ba k).s = tp at HN ⊢
    by_cases ht : tm k = t
    · have x1 : (tm k == t) = true := by simp [ht]
      have HE : Hid (tm k = t) := ht
      clear ht
      by_cases hs : tp < sn k
      · go_wp2
        go_round
        case rel => exact ⟨k + 1, by omega, by go_num, by rw [HN.out, if_pos ⟨HE.out, hs⟩]⟩
        case measure => simp [intOf]; omega
      · go_wp2
        go_round
        case rel => exact ⟨k + 1, by omega, by go_num, by rw [HN.out, if_neg (fun h => hs h.2)]⟩
        case measure => simp [intOf]; omega
    · have x1 : (tm k == t) = false := by simp [ht]
      have HE : Hid (¬ tm k = t) := ht
      clear ht
      go_wp2
      go_round
      case rel => exact ⟨k + 1, by omega, by go_num, by rw [HN.out, if_neg (fun h => HE.out h.1)]⟩
      case measure => simp [intOf]; omega
  obtain rfl : m = k := by omega
  clear hlt hk Htop
  have HT2 : Hid (Below wc.heap.size wc wr ∧ Tab wr (wc.heap.size + 1) (wc.heap.size + 2) (wc.heap.size + 3) n (run ttl en ⟨c, t, s, wl, dl⟩ tm sn wa ba m).c t (run ttl en ⟨c, t, s, wl, dl⟩ tm sn wa ba m).s (run ttl en ⟨c, t, s, wl, dl⟩ tm sn wa ba m).wl ttl dl en) := by
    have h := HT.out
    have h1 := HLow.out.t
    have h2 := HLow.out.dl
    refine ⟨h.1, ?_⟩
    have h3 := h.2
    unfold TabS at h3
    rw [h1, h2] at h3
    exact h3
  have HX : Hid ((run ttl en ⟨c, t, s, wl, dl⟩ tm sn wa ba m).c = IntKind.u64.wrap (c + IntKind.u64.wrap ((run ttl en ⟨c, t, s, wl, dl⟩ tm sn wa ba m).s - s))) := HLow.out.c
  have HW : Hid (((run ttl en ⟨c, t, s, wl, dl⟩ tm sn wa ba m).s = s ∧ (run ttl en ⟨c, t, s, wl, dl⟩ tm sn wa ba m).wl = wl) ∨ (s < (run ttl en ⟨c, t, s, wl, dl⟩ tm sn wa ba m).s ∧ ∃ j, j < m ∧ tm j = t ∧ sn j = (run ttl en ⟨c, t, s, wl, dl⟩ tm sn wa ba m).s ∧ (run ttl en ⟨c, t, s, wl, dl⟩ tm sn wa ba m).wl = wa j ∧ ∀ i, i < j → tm i = t → sn i < (run ttl en ⟨c, t, s, wl, dl⟩ tm sn wa ba m).s)) := HLow.out.wl
  clear HLow HT
  generalize (run ttl en ⟨c, t, s, wl, dl⟩ tm sn wa ba m).c = yc at HT2 HX HW ⊢
  generalize (run ttl en ⟨c, t, s, wl, dl⟩ tm sn wa ba m).s = ys at HT2 HX HW ⊢
  generalize (run ttl en ⟨c, t, s, wl, dl⟩ tm sn wa ba m).wl = yw at HT2 HX HW ⊢
  go_upto_if 209 with fail
  go_cut [31] (fun v31 w1 => v31 = .int .u64 yw ∧ w1 = wr)
  case first => as_aux_lemma =>
    by_cases hys : ys = s
    · have x1 : (ys != s) = false := by simp [hys]
      have HY : Hid (ys = s) := hys
      clear hys
      go_wp2
      go_meet
      case rel =>
        refine ⟨?_, rfl⟩
        rcases HW.out with ⟨_, h⟩ | ⟨h, _⟩
        · rw [h]
        · have := HY.out; omega
    · have x1 : (ys != s) = true := by simp [hys]
      have HY : Hid (¬ ys = s) := hys
      clear hys
      go_wp2_with fail
      go_loop [31, 32] (fun v i => ∃ k : Nat, k ≤ m ∧ i = .int .i64 (k : Int) ∧ v = .int .u64 wl ∧ Hid (∀ j, j < k → ¬ (tm j = t ∧ sn j = ys))) (fun _ i => m - (intOf i).toNat)
      case atStart => exact ⟨0, Nat.zero_le _, rfl, rfl, fun j hj => by omega⟩
      case round => as_aux_lemma =>
        obtain ⟨k, hk, rfl, rfl, HP⟩ := hrel
        by_cases hlt : k < m
        · obtain ⟨b7, o7, rfl, hb7, hc7⟩ := HI3.out.1 (by omega)
          obtain ⟨b8, o8, rfl, hb8, hc8⟩ := HI3.out.2.1 (by omega)
          obtain ⟨b9, o9, rfl, hb9, hc9⟩ := HI3.out.2.2 (by omega)
          have p7 := hc7 k hlt
          have p8 := hc8 k hlt
          have p9 := hc9 k hlt
          clear hc7 hc8 hc9 hb7 hb8 hb9
          have hlt' : (k : Int) < (m : Int) := by omega
          by_cases ht : tm k = t
          · have x2 : (tm k == t) = true := by simp [ht]
            have HE : Hid (tm k = t) := ht
            clear ht
            by_cases hs : sn k = ys
            · have x3 : (sn k == ys) = true := by simp [hs]
              have HS : Hid (sn k = ys) := hs
              clear hs
              go_wp2
              go_meet
              case rel =>
                refine ⟨?_, rfl⟩
                rcases HW.out with ⟨h, _⟩ | ⟨_, j, hj, h1, h2, h3, h4⟩
                · exact absurd h HY.out
                · have e : j = k := by
                    rcases Nat.lt_trichotomy j k with h | h | h
                    · exact absurd ⟨h1, h2⟩ (HP.out j h)
                    · exact h
                    · have := h4 k h HE.out
                      have := HS.out
                      omega
                  subst e
                  rw [h3]
            · have x3 : (sn k == ys) = false := by simp [hs]
              have HS : Hid (¬ sn k = ys) := hs
              clear hs
              go_wp2
              go_round
              case rel =>
                refine ⟨k + 1, by omega, by go_num, rfl, fun j hj => ?_⟩
                by_cases e : j = k
                · subst e; exact fun h => HS.out h.2
                · exact HP.out j (by omega)
              case measure => simp [intOf]; omega
          · have x2 : (tm k == t) = false := by simp [ht]
            have HE : Hid (¬ tm k = t) := ht
            clear ht
            go_wp2
            go_round
            case rel =>
              refine ⟨k + 1, by omega, by go_num, rfl, fun j hj => ?_⟩
              by_cases e : j = k
              · subst e; exact fun h => HE.out h.1
              · exact HP.out j (by omega)
            case measure => simp [intOf]; omega
        · exfalso
          rcases HW.out with ⟨h, _⟩ | ⟨_, j, hj, h1, h2, h3, h4⟩
          · exact HY.out h
          · exact HP.out j (by omega) ⟨h1, h2⟩
  case rest => as_aux_lemma =>
  obtain ⟨rfl, hw1⟩ := hcut
  obtain rfl := hw1.symm
  clear hw1
  have x1 : (yc != IntKind.u64.wrap (c + IntKind.u64.wrap (ys - s))) = false := by rw [← HX.out]; simp
  have T := HT2.out.2
  go_wp2_with fail
  refine (clock_any (x := ⟨yc, t, ys, yw, dl⟩) T).mono ?_
  rintro e w' ⟨rfl, hw'⟩
  obtain rfl := hw'.symm
  clear hw'
  go_wp2_with fail
  refine (last_any (x := ⟨yc, t, ys, yw, dl⟩) T).mono ?_
  rintro e w' ⟨rfl, rfl⟩
  go_wp2_with fail
  refine (lastIs_any _ t ys yw).mono ?_
  rintro e w' ⟨rfl, rfl⟩
  go_wp2_with fail
  have U : Upto (fun _ => False) wr ((wr.alloc (.cells #[.int .u64 t, .int .u64 ys, .int .u64 yw, .int .u64 0] 29)).alloc (.cells #[.int .u64 t, .int .u64 ys, .int .u64 yw, .int .u64 0] 29)) := ((Upto.refl _ _).alloc _).alloc _
  refine (given_any (x := ⟨yc, t, ys, yw, dl⟩) (T.calm U) (by omega) q2 k2 ((HS2.out.keepB HT2.out.1).keep U)).mono ?_
  rintro e w' ⟨rfl, kq, rfl⟩
  go_wp2_with fail
  go_ret
  have hsz2 := HT2.out.1.size
  exact ⟨rfl, HB.out.trans ((HT2.out.1.mono hsz).trans (((U.drewN kq).below (Nat.le_refl _) (fun _ h => h.elim)).mono (by omega)))⟩
end Go.Proofs.Qxb6606085a
