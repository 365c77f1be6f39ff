import Derived.Test.Qxb6612292aConv
namespace Go.Proofs.Qxb6612292a
open Go.RowKit
set_option linter.unusedVariables false
set_option linter.unusedSimpArgs false

theorem rank_less {D : Nat → Dt} {n r k : Nat} {d : Dt} (h : Rank D n d r) (hk : k < n) : lessD (D k) d = decide (k < r) := by
  by_cases e : k < r
  · rw [h.lo k e]; simp [e]
  · rw [h.hi k (by omega) hk]; simp [e]

theorem found_eq (a d : Dt) : (cmpD a d == 0) = ((a.1.toList == d.1.toList) && (a.2 == d.2)) := by
  rw [Bool.eq_iff_iff]
  simp [cmpD_zero]

set_option maxHeartbeats 2000000 in
set_option maxRecDepth 100000 in
theorem lawA (w : World) (sl : Option Addr) (n cap : Nat) (D : Nat → Dt) (id : ByteArray) (seq : Int) (hn : n ≤ 65536) (hid : id.size ≤ 65536) (hR : Rw w sl n D) (hnil : sl = none → n = 0) :
    Calls Try.prog 3 #[.slice sl n cap, .string id, .int .u64 seq] w fun e w' => e = .returned (.bool true) ∧ Below w.heap.size w w' := by
  have HR : Hid (Rw w sl n D ∧ (sl = none → n = 0)) := ⟨hR, hnil⟩
  clear hR hnil
  have hid' : (id.size : Int) ≤ 65536 := by omega
  go_enter Try.func3, Try.ntmps3
  go_wp2_with fail
  refine (bytes6 sl n cap D id (.int .u64 seq) w (by unfold maxLen; omega) HR.out.1).mono ?_
  rintro e w' ⟨⟨bb, rfl⟩, hw'⟩
  obtain rfl := hw'.symm
  clear hw'
  cases bb
  · go_wp2_with fail
    go_ret
    exact ⟨rfl, Below.refl _ _⟩
  go_wp2_with fail
  refine (dbytes_any sl n cap D id w (by unfold maxLen; omega) HR.out.1).mono ?_
  rintro e w' ⟨⟨z, rfl⟩, hw'⟩
  obtain rfl := hw'.symm
  clear hw'
  by_cases hz : 1048576 < z
  · go_wp2_with fail
    go_ret
    exact ⟨rfl, Below.refl _ _⟩
  go_wp2_with fail
  refine (held_any sl n cap D w hn HR.out.1).mono ?_
  rintro e w1 ⟨⟨bb, rfl, hS⟩, hb1⟩
  cases bb
  · clear hS
    go_wp2_with fail
    go_ret
    exact ⟨rfl, hb1⟩
  have HS : Hid (Sorted D n) := hS rfl
  have H1 : Hid (Below w.heap.size w w1) := hb1
  clear hS hb1 hz
  go_wp2_with fail
  refine (conv_any sl n cap D w1 (by omega) (HR.out.1.keep H1.out) HR.out.2).mono ?_
  rintro e w2 ⟨sl', cap', rfl, hR2, hb2⟩
  have H2 : Hid (Below w.heap.size w w2 ∧ Rw w2 sl' n D) := ⟨H1.out.trans (hb2.mono H1.out.size), hR2⟩
  clear hR2 hb2 H1
  go_wp2_with fail
  have ha : Below w2.heap.size w2 (w2.alloc (.cells #[.string id, .int .u64 seq] 30)) := (Below.refl _ _).alloc (Nat.le_refl _) _
  refine (zz_any sl' n cap' D (id, seq) (w2.alloc (.cells #[.string id, .int .u64 seq] 30)) (by omega) (H2.out.2.keep ha) HS.out).mono ?_
  rintro e w3 ⟨r, hr, rfl, hb3⟩
  have hb3' : Below (w2.heap.size + 1) (w2.alloc (.cells #[.string id, .int .u64 seq] 30)) w3 := by simpa using hb3
  have r3 : w3.heap[w2.heap.size]? = some (.cells #[.string id, .int .u64 seq] 30) := (hb3'.block _ (by omega)).trans (heap_alloc_new w2 _)
  have H3 : Hid (Below w.heap.size w w3 ∧ Rank D n (id, seq) r ∧ w3.heap[w2.heap.size]? = some (.cells #[.string id, .int .u64 seq] 30)) :=
    ⟨H2.out.1.trans ((ha.trans (hb3'.mono (by omega))).mono H2.out.1.size), hr, r3⟩
  have hrn := hr.le
  clear hb3 hb3' r3 hr ha H2 HS
  generalize hfd : (decide (r < n) && (cmpD (D r) (id, seq) == 0)) = fd
  have HF : Hid ((decide (r < n) && (cmpD (D r) (id, seq) == 0)) = fd) := hfd
  clear hfd
  go_wp2_with fail
  go_loopw [11, 12] (fun v11 v12 wr => ∃ k : Nat, k ≤ n ∧ v12 = .int .i64 (k : Int) ∧ v11 = .int .i64 ((min k r : Nat) : Int) ∧ Below w3.heap.size w3 wr) (fun _ i _ => n - (intOf i).toNat)
  case atStart => exact ⟨0, Nat.zero_le _, rfl, by simp, Below.refl _ _⟩
  case round =>
  obtain ⟨k, hk, rfl, rfl, hb⟩ := hrel
  have HB : Hid (Below w3.heap.size w3 wr ∧ Below w.heap.size w wr) := ⟨hb, H3.out.1.trans (hb.mono H3.out.1.size)⟩
  have hP : w2.heap.size < w3.heap.size := (Array.getElem?_eq_some_iff.1 H3.out.2.2).1
  have t0 : wr.cell? ⟨w2.heap.size, 0, none⟩ = some (.string id) := by rw [hb.cell (p := ⟨w2.heap.size, 0, none⟩) hP]; exact cell_of_row _ _ 0 _ 30 (0, 0) H3.out.2.2
  have t1 : wr.cell? ⟨w2.heap.size, 1, none⟩ = some (.int .u64 seq) := by rw [hb.cell (p := ⟨w2.heap.size, 1, none⟩) hP]; exact cell_of_row _ _ 1 _ 30 (0, 0) H3.out.2.2
  clear hb
  by_cases hlt : k < n
  · obtain ⟨b, o, rfl, hbl, hc⟩ := (HR.out.1.keep HB.out.2) (by omega)
    obtain ⟨c0, c1⟩ := hc k hlt
    clear hc
    have hlt' : (k : Int) < (n : Int) := by omega
    have HL : Hid (lessD (D k) (id, seq) = decide (k < r)) := rank_less H3.out.2.1 hlt
    generalize hlv : decide (k < r) = lv at HL
    have HLV : Hid (decide (k < r) = lv) := hlv
    clear hlv
    have HA : Hid (Calls Try.prog 11 #[.agg #[.string (D k).1, .int .u64 (D k).2], .agg #[.string id, .int .u64 seq]] wr.drew fun e w' => e = .returned (.bool lv) ∧ Below wr.heap.size wr w' ∧
        (w'.cell? ⟨b, o + k * 2, none⟩ = some (.string (D k).1) ∧ w'.cell? ⟨b, o + k * 2 + 1, none⟩ = some (.int .u64 (D k).2) ∧ w'.cell? ⟨w2.heap.size, 0, none⟩ = some (.string id) ∧ w'.cell? ⟨w2.heap.size, 1, none⟩ = some (.int .u64 seq))) := by
      refine (less_any (D k) (id, seq) wr.drew).mono ?_
      rintro e w' ⟨rfl, rfl⟩
      have hb' : Below wr.heap.size wr ((wr.drew.alloc (.cells #[.string (D k).1, .int .u64 (D k).2] 30)).alloc (.cells #[.string id, .int .u64 seq] 30)) :=
        (((Below.refl _ _).drew).alloc (Nat.le_refl _) _).alloc (by simp) _
      refine ⟨by rw [HL.out], hb', ?_, ?_, ?_, ?_⟩
      · rw [hb'.cell (p := ⟨b, o + k * 2, none⟩) (block_lt_of_cell c0)]; exact c0
      · rw [hb'.cell (p := ⟨b, o + k * 2 + 1, none⟩) (block_lt_of_cell c1)]; exact c1
      · rw [hb'.cell (p := ⟨w2.heap.size, 0, none⟩) (block_lt_of_cell t0)]; exact t0
      · rw [hb'.cell (p := ⟨w2.heap.size, 1, none⟩) (block_lt_of_cell t1)]; exact t1
    clear hbl HL
    generalize hs1 : (D k).1 = s1 at c0 HA
    generalize hq1 : (D k).2 = q1 at c1 HA
    clear hs1 hq1
    generalize hmk : min k r = mk
    have HM : Hid (min k r = mk) := hmk
    have hmkn : mk ≤ n := by omega
    clear hmk
    go_wp2_with fail
    cases lv
    · go_region_held (fun w' => w'.cell? ⟨b, o + k * 2, none⟩ = some (.string s1) ∧ w'.cell? ⟨b, o + k * 2 + 1, none⟩ = some (.int .u64 q1) ∧ w'.cell? ⟨w2.heap.size, 0, none⟩ = some (.string id) ∧ w'.cell? ⟨w2.heap.size, 1, none⟩ = some (.int .u64 seq)) (first | exact hcs | go_keep)
        (first | (go_at_call 11; refine HA.out.mono ?_; rintro e w' ⟨rfl, hnew, hcs⟩))
      go_wp2
      go_roundw
      case rel =>
        have hle : ¬ k < r := by have := HLV.out; simp at this; omega
        refine ⟨k + 1, by omega, by go_num, ?_, HB.out.1.trans (hnew.mono HB.out.1.size)⟩
        have := HM.out
        rw [show min (k + 1) r = mk from by omega]
      case measure => simp [intOf]; omega
    · go_region_held (fun w' => w'.cell? ⟨b, o + k * 2, none⟩ = some (.string s1) ∧ w'.cell? ⟨b, o + k * 2 + 1, none⟩ = some (.int .u64 q1) ∧ w'.cell? ⟨w2.heap.size, 0, none⟩ = some (.string id) ∧ w'.cell? ⟨w2.heap.size, 1, none⟩ = some (.int .u64 seq)) (first | exact hcs | go_keep)
        (first | (go_at_call 11; refine HA.out.mono ?_; rintro e w' ⟨rfl, hnew, hcs⟩))
      go_wp2
      go_roundw
      case rel =>
        have hle : k < r := by have := HLV.out; simpa using this
        refine ⟨k + 1, by omega, by go_num, ?_, HB.out.1.trans (hnew.mono HB.out.1.size)⟩
        have := HM.out
        rw [show min (k + 1) r = mk + 1 from by omega]
        go_num
      case measure => simp [intOf]; omega
  obtain rfl : n = k := by omega
  clear hlt t0 t1
  rw [show min n r = r from by omega]
  have x0 : ((r : Int) == (r : Int)) = true := by simp
  by_cases hrl : r < n
  · obtain ⟨b, o, rfl, hbl, hc⟩ := (HR.out.1.keep HB.out.2) (by omega)
    obtain ⟨c0, c1⟩ := hc r hrl
    clear hc hbl
    have hrl' : (r : Int) < (n : Int) := by omega
    have HF2 : Hid ((((D r).1.toList == id.toList) && ((D r).2 == seq)) = fd) := by
      have h := HF.out
      rw [found_eq] at h
      have h' : (((D r).1.toList == id.toList) && ((D r).2 == seq)) = fd := by simpa [hrl] using h
      exact h'
    clear HF
    generalize (D r).1 = s1 at c0 HF2
    generalize (D r).2 = q1 at c1 HF2
    cases h1 : (s1.toList == id.toList)
    · obtain rfl : false = fd := by have := HF2.out; rw [h1] at this; simpa using this
      go_wp2
      go_ret
      exact ⟨rfl, HB.out.2⟩
    · cases h2 : (q1 == seq)
      · obtain rfl : false = fd := by have := HF2.out; rw [h1, h2] at this; simpa using this
        go_wp2
        go_ret
        exact ⟨rfl, HB.out.2⟩
      · obtain rfl : true = fd := by have := HF2.out; rw [h1, h2] at this; simpa using this
        go_wp2
        go_ret
        exact ⟨rfl, HB.out.2⟩
  · have hd : decide ((r : Int) < (n : Int)) = false := by simp; omega
    have hd2 : decide (r < n) = false := by simp; omega
    obtain rfl : false = fd := by have := HF.out; rw [hd2] at this; simpa using this
    go_wp2
    go_ret
    exact ⟨rfl, HB.out.2⟩
end Go.Proofs.Qxb6612292a
