import Derived.Test.Qxb6612292aPush
namespace Go.Proofs.Qxb6612292a
open Go.RowKit
set_option linter.unusedVariables false
set_option linter.unusedSimpArgs false

theorem found_eqB (a d : Dt) : (cmpD a d == 0) = ((a.1.toList == d.1.toList) && (a.2 == d.2)) := by
  rw [Bool.eq_iff_iff]
  simp [cmpD_zero]

set_option maxHeartbeats 4000000 in
set_option maxRecDepth 100000 in
theorem lawB (w : World) (sl : Option Addr) (n cap : Nat) (D : Nat → Dt) (id : ByteArray) (seq : Int) (hn : n ≤ 65536) (hid : id.size ≤ 65536) (hR : Rw w sl n D) (hnil : sl = none → n = 0) :
    Calls Try.prog 4 #[.slice sl n cap, .string id, .int .u64 seq] w fun e w' => e = .returned (.bool true) ∧ Below w.heap.size w w' := by
  have HR : Hid (Rw w sl n D ∧ (sl = none → n = 0)) := ⟨hR, hnil⟩
  clear hR hnil
  have hid' : decide ((65536 : Int) < (id.size : Int)) = false := by simp; omega
  have hn' : decide ((65536 : Int) < (n : Int)) = false := by simp; omega
  go_enter Try.func4, Try.ntmps4
  go_wp2_with fail
  refine (bytes12 sl n cap D id (.int .u64 seq) w (by unfold maxLen; omega) HR.out.1).mono ?_
  rintro e w' ⟨⟨bb, rfl⟩, hw'⟩
  obtain rfl := hw'.symm
  clear hw'
  cases bb
  · go_wp2_with fail
    go_ret
    exact ⟨rfl, Below.refl _ _⟩
  go_wp2_with fail
  refine (dbytes_any sl n cap D id w (by unfold maxLen; omega) HR.out.1).mono ?_
  rintro e w' ⟨⟨z, rfl⟩, hw'⟩
  obtain rfl := hw'.symm
  clear hw'
  by_cases hz : decide (1048576 < z) = true
  · go_wp2_with fail
    go_ret
    exact ⟨rfl, Below.refl _ _⟩
  have hz' : decide (1048576 < z) = false := by simpa using hz
  clear hz
  go_wp2_with fail
  refine (held_any sl n cap D w hn HR.out.1).mono ?_
  rintro e w1 ⟨⟨bb, rfl, hS⟩, hb1⟩
  cases bb
  · clear hS
    go_wp2_with fail
    go_ret
    exact ⟨rfl, hb1⟩
  have HS : Hid (Sorted D n) := hS rfl
  have H1 : Hid (Below w.heap.size w w1) := hb1
  clear hS hb1 hz'
  go_wp2_with fail
  refine (conv_any sl n cap D w1 (by omega) (HR.out.1.keep H1.out) HR.out.2).mono ?_
  rintro e w2 ⟨sl', cap', rfl, hR2, hb2⟩
  have H2 : Hid (Below w.heap.size w w2 ∧ Rw w2 sl' n D) := ⟨H1.out.trans (hb2.mono H1.out.size), hR2⟩
  clear hR2 hb2 H1
  go_wp2_with fail
  -- every dot of the set is found at its place
  go_loopw [8] (fun v8 wr => ∃ k : Nat, k ≤ n ∧ v8 = .int .i64 (k : Int) ∧ Below w2.heap.size w2 wr) (fun i _ => n - (intOf i).toNat)
  case atStart => exact ⟨0, Nat.zero_le _, rfl, Below.refl _ _⟩
  case round =>
  obtain ⟨k, hk, rfl, hb⟩ := hrel
  have HB : Hid (Below w2.heap.size w2 wr) := hb
  clear hb
  by_cases hlt : k < n
  · have HZ : Hid (Calls Try.prog 10 #[.slice sl' n cap', .agg #[.string (D k).1, .int .u64 (D k).2]] wr fun e w' => e = .returned (.tuple #[.int .i64 (k : Int), .bool true]) ∧ Below wr.heap.size wr w') :=
      zz_own sl' n cap' D wr (by omega) (H2.out.2.keep HB.out) HS.out k hlt
    obtain ⟨b, o, rfl, hbl, hc⟩ := (H2.out.2.keep HB.out) (by omega)
    obtain ⟨c0, c1⟩ := hc k hlt
    clear hc hbl
    have hlt' : (k : Int) < (n : Int) := by omega
    have x0 : ((k : Int) != (k : Int)) = false := by simp
    generalize (D k).1 = s1 at c0 HZ
    generalize (D k).2 = q1 at c1 HZ
    go_wp2_with (first | (go_at_call 10; refine HZ.out.mono ?_; rintro e w' ⟨rfl, hnew⟩))
    go_roundw
    case rel => exact ⟨k + 1, by omega, by go_num, HB.out.trans (hnew.mono HB.out.size)⟩
    case measure => simp [intOf]; omega
  obtain rfl : n = k := by omega
  clear hlt hk
  go_wp2_with fail
  -- the search for (id, seq)
  have ha : Below wr.heap.size wr (wr.alloc (.cells #[.string id, .int .u64 seq] 33)) := (Below.refl _ _).alloc (Nat.le_refl _) _
  refine (zz_any sl' n cap' D (id, seq) (wr.alloc (.cells #[.string id, .int .u64 seq] 33)) (by omega) ((H2.out.2.keep HB.out).keep ha) HS.out).mono ?_
  rintro e w3 ⟨r, hr, rfl, hb3⟩
  have hb3' : Below (wr.heap.size + 1) (wr.alloc (.cells #[.string id, .int .u64 seq] 33)) w3 := by simpa using hb3
  have r3 : w3.heap[wr.heap.size]? = some (.cells #[.string id, .int .u64 seq] 33) := (hb3'.block _ (by omega)).trans (heap_alloc_new wr _)
  have hB2 : Below w2.heap.size w2 w3 := HB.out.trans ((ha.trans (hb3'.mono (by omega))).mono HB.out.size)
  have H3 : Hid (Below w.heap.size w w3 ∧ Rank D n (id, seq) r ∧ w3.heap[wr.heap.size]? = some (.cells #[.string id, .int .u64 seq] 33) ∧ Rw w3 sl' n D) :=
    ⟨H2.out.1.trans (hB2.mono H2.out.1.size), hr, r3, H2.out.2.keep hB2⟩
  have hrn := hr.le
  have hP : wr.heap.size < w3.heap.size := (Array.getElem?_eq_some_iff.1 r3).1
  clear hb3 hb3' r3 hr ha H2 HB hB2
  generalize wr.heap.size = P at H3 hP ⊢
  generalize hfd : (decide (r < n) && (cmpD (D r) (id, seq) == 0)) = fd
  have HF : Hid ((decide (r < n) && (cmpD (D r) (id, seq) == 0)) = fd) := hfd
  clear hfd
  have hrn' : decide ((n : Int) < (r : Int)) = false := by simp; omega
  have hrn2 : decide ((r : Int) < 0) = false := by simp
  have hrn3 : decide (n < r) = false := by simp; omega
  cases fd
  case true =>
    -- it is found
    have hrl : r < n := by have := HF.out; simp at this; exact this.1
    have HF2 : Hid (((D r).1.toList == id.toList) = true ∧ ((D r).2 == seq) = true) := by
      have h := HF.out
      rw [found_eqB] at h
      have h' : ((D r).1.toList == id.toList) = true ∧ ((D r).2 == seq) = true := by simpa [hrl] using h
      exact h'
    obtain ⟨b, o, rfl, hbl, hc⟩ := H3.out.2.2.2 (by omega)
    obtain ⟨c0, c1⟩ := hc r hrl
    clear hc hbl HF
    have hrl' : (r : Int) < (n : Int) := by omega
    generalize (D r).1 = s1 at c0 HF2
    generalize (D r).2 = q1 at c1 HF2
    have x1 := HF2.out.1
    have x2 := HF2.out.2
    go_wp2_with fail
    go_ret
    exact ⟨rfl, H3.out.1⟩
  case false =>
  -- it is not: put in at place r
  have HNO : Hid (r < n → ¬ ((D r).1.toList = (id, seq).1.toList ∧ (D r).2 = (id, seq).2)) := fun hrl h => by
    have g := HF.out
    rw [(cmpD_zero _ _).2 h] at g
    simp [hrl] at g
  have HE : Hid (Sorted (ins D (id, seq) r) (n + 1)) := ins_sorted HS.out H3.out.2.1 HNO.out
  have HE1 : Hid (∀ k, k < r → ins D (id, seq) r k = D k) := fun k hk => by unfold ins; rw [if_pos hk]
  have HE2 : Hid (ins D (id, seq) r r = (id, seq)) := by show ins D (id, seq) r r = (id, seq); unfold ins; rw [if_neg (by omega), if_pos rfl]
  have HE3 : Hid (∀ k, r ≤ k → ins D (id, seq) r (k + 1) = D k) := fun k hk => by unfold ins; rw [if_neg (by omega), if_neg (by omega)]; simp
  generalize ins D (id, seq) r = E at HE HE1 HE2 HE3
  have hmk := make22 n (by omega)
  clear HF HNO HS
  go_wp2_with fail
  clear hmk
  have hw3 : w.heap.size ≤ w3.heap.size := H3.out.1.size
  have H4 : Hid (Below w.heap.size w w3 ∧ w3.heap[P]? = some (.cells #[.string id, .int .u64 seq] 33)) := ⟨H3.out.1, H3.out.2.2.1⟩
  have HI0 : Hid (InsAt w3 (w3.alloc (.cells (rowV ((n + 1) * 2) zeroC) 30)) w3.heap.size n 0 E) := InsAt.start w3 n (by omega) E
  clear H3
  -- the dots ahead of place r
  go_loopw [14, 15] (fun v14 v15 wr => ∃ k : Nat, k ≤ r ∧ v15 = .int .i64 (k : Int) ∧ v14 = .slice (some ⟨w3.heap.size, 0, none⟩) k (n + 1) ∧ InsAt w3 wr w3.heap.size n k E) (fun _ i _ => r - (intOf i).toNat)
  case atStart => exact ⟨0, Nat.zero_le _, rfl, rfl, HI0.out⟩
  case round =>
  clear HI0
  obtain ⟨k, hk, rfl, rfl, hI⟩ := hrel
  have HI : Hid (InsAt w3 wr w3.heap.size n k E) := hI
  clear hI
  by_cases hlt : k < r
  · obtain ⟨b, o, rfl, hbl, hc⟩ := (HR.out.1.keep (H4.out.1.trans (HI.out.bl.mono hw3))) (by omega)
    obtain ⟨c0, c1⟩ := hc k (by omega)
    clear hc hbl
    have hlt' : (k : Int) < (r : Int) := by omega
    have hln : (k : Int) < (n : Int) := by omega
    have HV : Hid (E k = ((D k).1, (D k).2)) := HE1.out k hlt
    generalize (D k).1 = s1 at c0 HV
    generalize (D k).2 = q1 at c1 HV
    go_wp2_with (first | (at_builtin; refine wpList_push rfl _ _ rfl HI.out (by omega) s1 q1 HV.out rfl rfl ?_; intro w' hI'))
    go_roundw
    case rel => first | exact ⟨k + 1, by omega, by go_num, rfl, hI'⟩ | ((repeat apply Exists.intro); exact ⟨⟨k + 1, by omega, by go_num, rfl, hI'⟩, rfl⟩)
    case measure => simp [intOf]; omega
  obtain rfl : r = k := by omega
  clear hlt hk
  go_wp2_with (first | (at_builtin; refine wpList_push rfl _ _ rfl HI.out (by omega) id seq HE2.out rfl rfl ?_; intro w' hI'))
  have HI1 : Hid (InsAt w3 w' w3.heap.size n (r + 1) E) := hI'
  clear hI' HI
  -- the dots behind it
  go_loopw [14, 16] (fun v14 v16 wr => ∃ k : Nat, r ≤ k ∧ k ≤ n ∧ v16 = .int .i64 (k : Int) ∧ v14 = .slice (some ⟨w3.heap.size, 0, none⟩) (k + 1) (n + 1) ∧ InsAt w3 wr w3.heap.size n (k + 1) E) (fun _ i _ => n - (intOf i).toNat)
  case atStart => exact ⟨r, Nat.le_refl _, hrn, rfl, rfl, HI1.out⟩
  case round =>
  clear HI1
  obtain ⟨k, hrk, hk, rfl, rfl, hI⟩ := hrel
  have HI : Hid (InsAt w3 wr w3.heap.size n (k + 1) E) := hI
  clear hI
  by_cases hlt : k < n
  · obtain ⟨b, o, rfl, hbl, hc⟩ := (HR.out.1.keep (H4.out.1.trans (HI.out.bl.mono hw3))) (by omega)
    obtain ⟨c0, c1⟩ := hc k hlt
    clear hc hbl
    have hlt' : (k : Int) < (n : Int) := by omega
    have HV : Hid (E (k + 1) = ((D k).1, (D k).2)) := HE3.out k hrk
    generalize (D k).1 = s1 at c0 HV
    generalize (D k).2 = q1 at c1 HV
    go_wp2_with (first | (at_builtin; refine wpList_push rfl _ _ rfl HI.out (by omega) s1 q1 HV.out rfl rfl ?_; intro w' hI'))
    go_roundw
    case rel => first | exact ⟨k + 1, by omega, by omega, by go_num, rfl, hI'⟩ | ((repeat apply Exists.intro); exact ⟨⟨k + 1, by omega, by omega, by go_num, rfl, hI'⟩, rfl⟩)
    case measure => simp [intOf]; omega
  obtain rfl : n = k := by omega
  clear hlt hk hrk
  have hP5 : P < w3.heap.size := hP
  have H5 : Hid (Below w.heap.size w wr ∧ wr.heap[P]? = some (.cells #[.string id, .int .u64 seq] 33) ∧ Rw wr (some ⟨w3.heap.size, 0, none⟩) (n + 1) E) :=
    ⟨H4.out.1.trans (HI.out.bl.mono hw3), (HI.out.bl.block P hP5).trans H4.out.2, HI.out.rw⟩
  clear H4 HI HE1 HE3 HR
  obtain ⟨w5, hw5⟩ : ∃ w5, w5 = wr := ⟨_, rfl⟩
  subst hw5
  generalize w3.heap.size = g at H5 ⊢
  go_wp2_with fail
  -- it is in order
  go_loopw [17] (fun v17 wr => ∃ k : Nat, 1 ≤ k ∧ k ≤ n + 1 ∧ v17 = .int .i64 (k : Int) ∧ Below w5.heap.size w5 wr) (fun i _ => n + 1 - (intOf i).toNat)
  case atStart => exact ⟨1, Nat.le_refl _, by omega, rfl, Below.refl _ _⟩
  case round =>
  obtain ⟨k, hk1, hk, rfl, hb⟩ := hrel
  have HB : Hid (Below w5.heap.size w5 wr) := hb
  clear hb
  by_cases hlt : k < n + 1
  · obtain ⟨j, hj⟩ : ∃ j, k = j + 1 := ⟨k - 1, by omega⟩
    obtain ⟨b, o, e, hbl, hc⟩ := (H5.out.2.2.keep HB.out) (by omega)
    cases e
    obtain ⟨c0, c1⟩ := hc k hlt
    obtain ⟨e0, e1⟩ := hc j (by omega)
    rw [Nat.zero_add] at c0 c1 e0 e1
    have HL : Hid (lessD (E j) (E k) = true) := by have := HE.out j (by omega); rw [← hj] at this; exact this
    have hwk : IntKind.i64.wrap ((k : Int) - 1) = (j : Int) := by simp [IntKind.wrap, IntKind.bits, IntKind.signed]; omega
    have hwk2 : wrap64 ((k : Int) - 1) = (j : Int) := by unfold wrap64; omega
    have hjn : (j : Int) ≤ (n : Int) := by omega
    have hkn : (k : Int) ≤ (n : Int) := by omega
    have hjn2 : j ≤ n := by omega
    have hkn2 : k ≤ n := by omega
    have hjn3 : (j : Int) < (n : Int) + 1 := by omega
    have hkn3 : (k : Int) < (n : Int) + 1 := by omega
    clear hj hc
    have HA : Hid (Calls Try.prog 11 #[.agg #[.string (E j).1, .int .u64 (E j).2], .agg #[.string (E k).1, .int .u64 (E k).2]] wr.drew fun e w' => e = .returned (.bool true) ∧ Below wr.heap.size wr w' ∧
        (w'.cell? ⟨g, j * 2, none⟩ = some (.string (E j).1) ∧ w'.cell? ⟨g, j * 2 + 1, none⟩ = some (.int .u64 (E j).2) ∧ w'.cell? ⟨g, k * 2, none⟩ = some (.string (E k).1) ∧ w'.cell? ⟨g, k * 2 + 1, none⟩ = some (.int .u64 (E k).2))) := by
      refine (less_any (E j) (E k) wr.drew).mono ?_
      rintro e w' ⟨rfl, rfl⟩
      have hb' : Below wr.heap.size wr ((wr.drew.alloc (.cells #[.string (E j).1, .int .u64 (E j).2] 30)).alloc (.cells #[.string (E k).1, .int .u64 (E k).2] 30)) :=
        (((Below.refl _ _).drew).alloc (Nat.le_refl _) _).alloc (by simp) _
      refine ⟨by rw [HL.out], hb', ?_, ?_, ?_, ?_⟩
      · rw [hb'.cell (p := ⟨g, j * 2, none⟩) hbl]; exact e0
      · rw [hb'.cell (p := ⟨g, j * 2 + 1, none⟩) hbl]; exact e1
      · rw [hb'.cell (p := ⟨g, k * 2, none⟩) hbl]; exact c0
      · rw [hb'.cell (p := ⟨g, k * 2 + 1, none⟩) hbl]; exact c1
    clear hbl HL
    generalize hs : (E j).1 = s0 at e0 HA
    generalize hq : (E j).2 = q0 at e1 HA
    generalize hs1 : (E k).1 = s1 at c0 HA
    generalize hq1 : (E k).2 = q1 at c1 HA
    clear hs hq hs1 hq1
    go_wp2_with fail
    go_region_held (fun w' => w'.cell? ⟨g, j * 2, none⟩ = some (.string s0) ∧ w'.cell? ⟨g, j * 2 + 1, none⟩ = some (.int .u64 q0) ∧ w'.cell? ⟨g, k * 2, none⟩ = some (.string s1) ∧ w'.cell? ⟨g, k * 2 + 1, none⟩ = some (.int .u64 q1)) (first | exact hcs | go_keep)
      (first | (go_at_call 11; refine HA.out.mono ?_; rintro e w' ⟨rfl, hnew, hcs⟩))
    go_wp2
    go_roundw
    case rel => exact ⟨k + 1, by omega, by omega, by go_num, HB.out.trans (hnew.mono HB.out.size)⟩
    case measure => simp [intOf]; omega
  obtain rfl : n + 1 = k := by omega
  clear hlt hk hk1
  have hP6 : P < w5.heap.size := (Array.getElem?_eq_some_iff.1 H5.out.2.1).1
  have t0 : wr.cell? ⟨P, 0, none⟩ = some (.string id) := by rw [HB.out.cell (p := ⟨P, 0, none⟩) hP6]; exact cell_of_row _ _ 0 _ 33 (0, 0) H5.out.2.1
  have t1 : wr.cell? ⟨P, 1, none⟩ = some (.int .u64 seq) := by rw [HB.out.cell (p := ⟨P, 1, none⟩) hP6]; exact cell_of_row _ _ 1 _ 33 (0, 0) H5.out.2.1
  have HC : Hid (Calls Try.prog 9 #[.slice (some ⟨g, 0, none⟩) (n + 1) (n + 1)] wr.drew fun e w' => ∃ sl2 cap2, e = .returned (.slice sl2 (n + 1) cap2) ∧ (Rw w' sl2 (n + 1) E ∧ Below wr.heap.size wr w') ∧ (w'.cell? ⟨P, 0, none⟩ = some (.string id) ∧ w'.cell? ⟨P, 1, none⟩ = some (.int .u64 seq))) := by
    refine (conv_any (some ⟨g, 0, none⟩) (n + 1) (n + 1) E wr.drew (by omega) (H5.out.2.2.keep HB.out.drew) (fun h => by cases h)).mono ?_
    rintro e w' ⟨sl2, cap2, rfl, h1, h2⟩
    have hb' : Below wr.heap.size wr w' := (Below.refl _ _).drew.trans h2
    exact ⟨sl2, cap2, rfl, ⟨h1, hb'⟩, by rw [hb'.cell (p := ⟨P, 0, none⟩) (block_lt_of_cell t0)]; exact t0, by rw [hb'.cell (p := ⟨P, 1, none⟩) (block_lt_of_cell t1)]; exact t1⟩
  have HZ : Hid (∀ (W : World) (sl2 : Option Addr) (cap2 : Nat), (Rw W sl2 (n + 1) E ∧ Below wr.heap.size wr W) → Calls Try.prog 10 #[.slice sl2 (n + 1) cap2, .agg #[.string id, .int .u64 seq]] W fun e w' => e = .returned (.tuple #[.int .i64 (r : Int), .bool true]) ∧ Below wr.heap.size wr w' ∧ (w'.cell? ⟨P, 0, none⟩ = some (.string id) ∧ w'.cell? ⟨P, 1, none⟩ = some (.int .u64 seq))) := fun W sl2 cap2 hW => by
    have h := zz_own sl2 (n + 1) cap2 E W (by omega) hW.1 HE.out r (by omega)
    rw [HE2.out] at h
    refine h.mono ?_
    rintro e w' ⟨rfl, h2⟩
    have hb' : Below wr.heap.size wr w' := hW.2.trans (h2.mono hW.2.size)
    exact ⟨rfl, hb', by rw [hb'.cell (p := ⟨P, 0, none⟩) (block_lt_of_cell t0)]; exact t0, by rw [hb'.cell (p := ⟨P, 1, none⟩) (block_lt_of_cell t1)]; exact t1⟩
  have x0 : ((r : Int) == (r : Int)) = true := by simp
  clear HE HE2
  go_wp2_with fail
  go_region_held (fun w' => w'.cell? ⟨P, 0, none⟩ = some (.string id) ∧ w'.cell? ⟨P, 1, none⟩ = some (.int .u64 seq)) (first | exact hcs2 | exact hcs | go_keep)
    (first
      | (go_at_call 9; refine HC.out.mono ?_; rintro e w' ⟨sl2, cap2, rfl, hnew, hcs⟩)
      | (go_at_call 10; refine (HZ.out _ sl2 cap2 hnew).mono ?_; rintro e w'' ⟨rfl, hnew2, hcs2⟩))
  go_wp2
  go_ret
  exact ⟨rfl, H5.out.1.trans ((HB.out.trans (hnew2.mono HB.out.size)).mono H5.out.1.size)⟩
end Go.Proofs.Qxb6612292a
