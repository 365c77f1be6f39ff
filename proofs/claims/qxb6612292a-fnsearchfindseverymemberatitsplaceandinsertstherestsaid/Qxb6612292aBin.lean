import Derived.Test.Qxb6612292aCmp
namespace Go.Proofs.Qxb6612292a
open Go.RowKit
set_option linter.unusedVariables false
set_option linter.unusedSimpArgs false

set_option maxHeartbeats 400000 in
theorem comp_any (a b : Dt) (w : World) :
    Calls Try.prog 18 #[.agg #[.string a.1, .int .u64 a.2], .agg #[.string b.1, .int .u64 b.2]] w fun e w' => e = .returned (.int .i64 (cmpD a b)) ∧ Below w.heap.size w w' := by
  unfold cmpD
  generalize hc : cmpS a.1.toList b.1.toList = cs
  have HC : Hid (cmpS a.1.toList b.1.toList = cs) := hc
  clear hc
  generalize hi : cmpI a.2 b.2 = ci
  have HI : Hid (cmpI a.2 b.2 = ci) := hi
  clear hi
  have K1 : Hid (∀ w : World, Calls Try.prog 20 #[.string a.1, .string b.1] w fun e w' => e = .returned (.int .i64 cs) ∧ w' = w) := fun w => by rw [← HC.out]; exact cmpS_any _ _ _
  have K2 : Hid (∀ w : World, Calls Try.prog 21 #[.int .u64 a.2, .int .u64 b.2] w fun e w' => e = .returned (.int .i64 ci) ∧ w' = w) := fun w => by rw [← HI.out]; exact cmpI_any _ _ _
  clear HC HI
  have K3 : Hid (∀ (b : Nat) (w : World), w.cell? ⟨b, 0, none⟩ = some (.int .i64 cs) → w.cell? ⟨b, 1, none⟩ = some (.int .i64 ci) → Calls Try.prog 19 #[.slice (some ⟨b, 0, none⟩) 2 2] w fun e w' => e = .returned (.int .i64 (if cs != 0 then cs else ci)) ∧ w' = w) := fun b w h0 h1 => or_any b cs ci w h0 h1
  generalize (if cs != 0 then cs else ci) = r at K3 ⊢
  go_enter Try.func18, Try.ntmps18
  go_wp2_with fail
  go_region_held (fun w' => w'.cell? ⟨w.heap.size, 0, none⟩ = some (.string a.1) ∧ w'.cell? ⟨w.heap.size, 1, none⟩ = some (.int .u64 a.2) ∧ w'.cell? ⟨w.heap.size + 1, 0, none⟩ = some (.string b.1) ∧ w'.cell? ⟨w.heap.size + 1, 1, none⟩ = some (.int .u64 b.2)) (go_keep)
    (first
      | (go_at_call 20; refine (K1.out _).mono ?_; rintro e w' ⟨rfl, rfl⟩)
      | (go_at_call 21; refine (K2.out _).mono ?_; rintro e w' ⟨rfl, rfl⟩)
      | (go_at_call 19; refine (K3.out _ _ (by go_simp) (by go_simp)).mono ?_; rintro e w' ⟨rfl, rfl⟩))
  all_goals
    go_wp2
    go_ret
    exact ⟨rfl, ((((Below.refl _ _).alloc (Nat.le_refl _) _).alloc (by simp) _).alloc (by simp; omega) _).drew⟩

/-- A slice of n dots. -/
def Rw (w : World) (sl : Option Addr) (n : Nat) (D : Nat → Dt) : Prop := 0 < n → ∃ b o, sl = some ⟨b, o, none⟩ ∧ b < w.heap.size ∧
  ∀ i, i < n → w.cell? ⟨b, o + i * 2, none⟩ = some (.string (D i).1) ∧ w.cell? ⟨b, o + i * 2 + 1, none⟩ = some (.int .u64 (D i).2)
theorem Rw.keep {w w' : World} {sl : Option Addr} {n : Nat} {D : Nat → Dt} (h : Rw w sl n D) (hb : Below w.heap.size w w') : Rw w' sl n D := by
  intro h0
  obtain ⟨b, o, e, hlt, hc⟩ := h h0
  exact ⟨b, o, e, Nat.lt_of_lt_of_le hlt hb.size, fun i hi => ⟨by rw [hb.cell (p := ⟨b, o + i * 2, none⟩) hlt]; exact (hc i hi).1, by rw [hb.cell (p := ⟨b, o + i * 2 + 1, none⟩) hlt]; exact (hc i hi).2⟩⟩

/-- The search under way: [i, j) is still open. -/
structure Op2 (D : Nat → Dt) (n : Nat) (d : Dt) (i j : Nat) : Prop where
  ij : i ≤ j
  jn : j ≤ n
  lo : ∀ k, k < i → lessD (D k) d = true
  hi : ∀ k, j ≤ k → k < n → lessD (D k) d = false

theorem Op2.up {D : Nat → Dt} {n i j h : Nat} {d : Dt} (H : Op2 D n d i j) (hS : Sorted D n) (hj : h < j) (hl : lessD (D h) d = true) : Op2 D n d (h + 1) j := by
  have := H.jn
  refine ⟨by omega, H.jn, fun k hk => ?_, H.hi⟩
  by_cases e : k = h
  · subst e; exact hl
  · exact less_trans (hS.lt k h (by omega) (by omega)) hl
theorem Op2.down {D : Nat → Dt} {n i j h : Nat} {d : Dt} (H : Op2 D n d i j) (hS : Sorted D n) (hi : i ≤ h) (hj : h < j) (hl : lessD (D h) d = false) : Op2 D n d i h := by
  have := H.jn
  refine ⟨hi, by omega, H.lo, fun k h1 h2 => ?_⟩
  by_cases e : h = k
  · subst e; exact hl
  · cases g : lessD (D k) d
    · rfl
    · have := less_trans (hS.lt h k (by omega) h2) g
      rw [hl] at this; cases this

set_option maxHeartbeats 1000000 in
theorem bin_any (sl : Option Addr) (n cap : Nat) (D : Nat → Dt) (d : Dt) (w : World) (hn : n ≤ 2 ^ 20) (hR : Rw w sl n D) (hS : Sorted D n) :
    Calls Try.prog 17 #[.slice sl n cap, .agg #[.string d.1, .int .u64 d.2], .func (.func 18) #[] #[]] w fun e w' => ∃ r, Rank D n d r ∧ e = .returned (.tuple #[.int .i64 (r : Int), .bool (decide (r < n) && (cmpD (D r) d == 0))]) ∧ Below w.heap.size w w' := by
  have HR : Hid (Rw w sl n D ∧ Sorted D n) := ⟨hR, hS⟩
  clear hR hS
  go_enter Try.func17, Try.ntmps17
  go_wp2
  go_loopw [9, 10] (fun v9 v10 wr => ∃ i j : Nat, v9 = .int .i64 (i : Int) ∧ v10 = .int .i64 (j : Int) ∧ Op2 D n d i j ∧ Below (w.heap.size + 1) (w.alloc (.cells #[.string d.1, .int .u64 d.2] 33)) wr) (fun v9 v10 _ => (intOf v10).toNat - (intOf v9).toNat)
  case atStart => exact ⟨0, n, rfl, rfl, ⟨Nat.zero_le _, Nat.le_refl _, fun k hk => by omega, fun k h1 h2 => by omega⟩, Below.refl _ _⟩
  case round =>
  obtain ⟨i, j, rfl, rfl, hO, hb⟩ := hrel
  have hij := hO.ij
  have hjn := hO.jn
  have HO : Hid (Op2 D n d i j) := hO
  have t0 : wr.cell? ⟨w.heap.size, 0, none⟩ = some (.string d.1) := by rw [hb.cell (p := ⟨w.heap.size, 0, none⟩) (by show w.heap.size < w.heap.size + 1; omega)]; exact cell_of_row _ _ 0 _ 33 (0, 0) (heap_alloc_new w _)
  have t1 : wr.cell? ⟨w.heap.size, 1, none⟩ = some (.int .u64 d.2) := by rw [hb.cell (p := ⟨w.heap.size, 1, none⟩) (by show w.heap.size < w.heap.size + 1; omega)]; exact cell_of_row _ _ 1 _ 33 (0, 0) (heap_alloc_new w _)
  have hbw : Below w.heap.size w wr := ((Below.refl _ _).alloc (Nat.le_refl _) _).trans (hb.mono (by omega))
  have HBW : Hid (Below w.heap.size w wr ∧ Below (w.heap.size + 1) (w.alloc (.cells #[.string d.1, .int .u64 d.2] 33)) wr) := ⟨hbw, hb⟩
  clear hO hb hbw
  by_cases hlt : i < j
  · have hlt' : (i : Int) < (j : Int) := by omega
    have hh : ((i : Int) + (j : Int)) / 2 = (((i + j) / 2 : Nat) : Int) := by omega
    have hh1 : i ≤ (i + j) / 2 := by omega
    have hh2 : (i + j) / 2 < j := by omega
    have HH : Hid (((i : Int) + (j : Int)) / 2 = (((i + j) / 2 : Nat) : Int)) := hh
    clear hh
    go_upto_region 5 with fail
    rw [HH.out]
    clear HH
    generalize (i + j) / 2 = h at hh1 hh2 ⊢
    obtain ⟨b, o, rfl, hbl, hc⟩ := (HR.out.1.keep HBW.out.1) (by omega)
    obtain ⟨c0, c1⟩ := hc h (by omega)
    clear hc
    have hhn : (h : Int) < (n : Int) := by omega
    generalize hcv : cmpD (D h) d = cv
    have HA : Hid (Calls Try.prog 18 #[.agg #[.string (D h).1, .int .u64 (D h).2], .agg #[.string d.1, .int .u64 d.2]] wr.drew fun e w' => e = .returned (.int .i64 cv) ∧ Below wr.heap.size wr w' ∧
        (w'.cell? ⟨b, o + h * 2, none⟩ = some (.string (D h).1) ∧ w'.cell? ⟨b, o + h * 2 + 1, none⟩ = some (.int .u64 (D h).2) ∧ w'.cell? ⟨w.heap.size, 0, none⟩ = some (.string d.1) ∧ w'.cell? ⟨w.heap.size, 1, none⟩ = some (.int .u64 d.2))) := by
      refine (comp_any (D h) d wr.drew).mono ?_
      rintro e w' ⟨rfl, hb⟩
      have hb' : Below wr.heap.size wr w' := (Below.refl _ _).drew.trans hb
      refine ⟨by rw [hcv], hb', ?_, ?_, ?_, ?_⟩
      · rw [hb'.cell (p := ⟨b, o + h * 2, none⟩) (block_lt_of_cell c0)]; exact c0
      · rw [hb'.cell (p := ⟨b, o + h * 2 + 1, none⟩) (block_lt_of_cell c1)]; exact c1
      · rw [hb'.cell (p := ⟨w.heap.size, 0, none⟩) (block_lt_of_cell t0)]; exact t0
      · rw [hb'.cell (p := ⟨w.heap.size, 1, none⟩) (block_lt_of_cell t1)]; exact t1
    have HCV : Hid (cmpD (D h) d = cv) := hcv
    clear hcv hbl
    generalize hs : (D h).1 = sh at c0 HA ⊢
    generalize hq : (D h).2 = qh at c1 HA ⊢
    clear hs hq
    by_cases hneg : cv < 0
    · have HL : Hid (lessD (D h) d = true) := (cmpD_neg _ _).1 (by rw [HCV.out]; exact hneg)
      go_region_held (fun w' => w'.cell? ⟨b, o + h * 2, none⟩ = some (.string sh) ∧ w'.cell? ⟨b, o + h * 2 + 1, none⟩ = some (.int .u64 qh) ∧ w'.cell? ⟨w.heap.size, 0, none⟩ = some (.string d.1) ∧ w'.cell? ⟨w.heap.size, 1, none⟩ = some (.int .u64 d.2)) (first | exact hcs | go_keep)
        (first | (go_at_call 18; refine HA.out.mono ?_; rintro e w' ⟨rfl, hnew, hcs⟩))
      go_wp2
      go_roundw
      case rel => exact ⟨h + 1, j, by go_num, rfl, HO.out.up HR.out.2 hh2 HL.out, HBW.out.2.trans (hnew.mono (by have := HBW.out.2.size; simp at this; omega))⟩
      case measure => simp [intOf]; omega
    · have HL : Hid (lessD (D h) d = false) := by
        cases g : lessD (D h) d
        · rfl
        · have := (cmpD_neg _ _).2 g; rw [HCV.out] at this; omega
      go_region_held (fun w' => w'.cell? ⟨b, o + h * 2, none⟩ = some (.string sh) ∧ w'.cell? ⟨b, o + h * 2 + 1, none⟩ = some (.int .u64 qh) ∧ w'.cell? ⟨w.heap.size, 0, none⟩ = some (.string d.1) ∧ w'.cell? ⟨w.heap.size, 1, none⟩ = some (.int .u64 d.2)) (first | exact hcs | go_keep)
        (first | (go_at_call 18; refine HA.out.mono ?_; rintro e w' ⟨rfl, hnew, hcs⟩))
      go_wp2
      go_roundw
      case rel => exact ⟨i, h, rfl, rfl, HO.out.down HR.out.2 hh1 hh2 HL.out, HBW.out.2.trans (hnew.mono (by have := HBW.out.2.size; simp at this; omega))⟩
      case measure => simp [intOf]; omega
  obtain rfl : i = j := by omega
  clear hlt
  have HK : Hid (Rank D n d i) := ⟨HO.out.jn, HO.out.lo, HO.out.hi⟩
  by_cases hin : i < n
  · obtain ⟨b, o, rfl, hbl, hc⟩ := (HR.out.1.keep HBW.out.1) (by omega)
    obtain ⟨c0, c1⟩ := hc i hin
    clear hc
    have hhn : (i : Int) < (n : Int) := by omega
    generalize hcv : cmpD (D i) d = cv
    have HA : Hid (Calls Try.prog 18 #[.agg #[.string (D i).1, .int .u64 (D i).2], .agg #[.string d.1, .int .u64 d.2]] wr.drew fun e w' => e = .returned (.int .i64 cv) ∧ Below wr.heap.size wr w' ∧
        (w'.cell? ⟨b, o + i * 2, none⟩ = some (.string (D i).1) ∧ w'.cell? ⟨b, o + i * 2 + 1, none⟩ = some (.int .u64 (D i).2) ∧ w'.cell? ⟨w.heap.size, 0, none⟩ = some (.string d.1) ∧ w'.cell? ⟨w.heap.size, 1, none⟩ = some (.int .u64 d.2))) := by
      refine (comp_any (D i) d wr.drew).mono ?_
      rintro e w' ⟨rfl, hb⟩
      have hb' : Below wr.heap.size wr w' := (Below.refl _ _).drew.trans hb
      refine ⟨by rw [hcv], hb', ?_, ?_, ?_, ?_⟩
      · rw [hb'.cell (p := ⟨b, o + i * 2, none⟩) (block_lt_of_cell c0)]; exact c0
      · rw [hb'.cell (p := ⟨b, o + i * 2 + 1, none⟩) (block_lt_of_cell c1)]; exact c1
      · rw [hb'.cell (p := ⟨w.heap.size, 0, none⟩) (block_lt_of_cell t0)]; exact t0
      · rw [hb'.cell (p := ⟨w.heap.size, 1, none⟩) (block_lt_of_cell t1)]; exact t1
    have HCV : Hid (cmpD (D i) d = cv) := hcv
    clear hcv hbl HO
    generalize hs : (D i).1 = sh at c0 HA ⊢
    generalize hq : (D i).2 = qh at c1 HA ⊢
    clear hs hq
    go_upto_region 8 with fail
    go_region_held (fun w' => w'.cell? ⟨b, o + i * 2, none⟩ = some (.string sh) ∧ w'.cell? ⟨b, o + i * 2 + 1, none⟩ = some (.int .u64 qh) ∧ w'.cell? ⟨w.heap.size, 0, none⟩ = some (.string d.1) ∧ w'.cell? ⟨w.heap.size, 1, none⟩ = some (.int .u64 d.2)) (first | exact hcs | go_keep)
      (first | (go_at_call 18; refine HA.out.mono ?_; rintro e w' ⟨rfl, hnew, hcs⟩))
    go_wp2
    go_ret2
    exact ⟨i, HK.out, by rw [HCV.out]; simp [hin], HBW.out.1.trans (hnew.mono HBW.out.1.size)⟩
  · have hd : decide ((i : Int) < (n : Int)) = false := by simp; omega
    clear HO
    go_upto_region 8 with fail
    go_quiet (fail)
    go_wp2
    go_ret2
    exact ⟨i, HK.out, by simp [hin], below_drewN HBW.out.1 _⟩

set_option maxHeartbeats 400000 in
theorem search_any (sl : Option Addr) (n cap : Nat) (D : Nat → Dt) (d : Dt) (w : World) (hn : n ≤ 2 ^ 20) (hR : Rw w sl n D) (hS : Sorted D n) :
    Calls Try.prog 15 #[.agg #[.slice sl n cap], .agg #[.string d.1, .int .u64 d.2]] w fun e w' => ∃ r, Rank D n d r ∧ e = .returned (.tuple #[.int .i64 (r : Int), .bool (decide (r < n) && (cmpD (D r) d == 0))]) ∧ Below w.heap.size w w' := by
  have hb : Below w.heap.size w ((w.alloc (.cells #[.slice sl n cap] 37)).alloc (.cells #[.string d.1, .int .u64 d.2] 33)) := ((Below.refl _ _).alloc (Nat.le_refl _) _).alloc (by simp) _
  have HC : Hid (Calls Try.prog 17 #[.slice sl n cap, .agg #[.string d.1, .int .u64 d.2], .func (.func 18) #[] #[]] ((w.alloc (.cells #[.slice sl n cap] 37)).alloc (.cells #[.string d.1, .int .u64 d.2] 33)) _) := bin_any sl n cap D d _ hn (hR.keep hb) hS
  have HB : Hid (Below w.heap.size w ((w.alloc (.cells #[.slice sl n cap] 37)).alloc (.cells #[.string d.1, .int .u64 d.2] 33))) := hb
  clear hb hR hS
  go_enter Try.func15, Try.ntmps15
  go_wp2_with fail
  refine HC.out.mono ?_
  rintro e w' ⟨r, hr, rfl, hb⟩
  have HK : Hid (Rank D n d r) := hr
  clear hr HC
  generalize hbb : (decide (r < n) && (cmpD (D r) d == 0)) = bb
  have HBB : Hid ((decide (r < n) && (cmpD (D r) d == 0)) = bb) := hbb
  clear hbb
  go_wp2_with fail
  go_ret2
  exact ⟨r, HK.out, by rw [HBB.out]; rfl, HB.out.trans (hb.mono HB.out.size)⟩

set_option maxHeartbeats 400000 in
theorem zz_any (sl : Option Addr) (n cap : Nat) (D : Nat → Dt) (d : Dt) (w : World) (hn : n ≤ 2 ^ 20) (hR : Rw w sl n D) (hS : Sorted D n) :
    Calls Try.prog 10 #[.slice sl n cap, .agg #[.string d.1, .int .u64 d.2]] w fun e w' => ∃ r, Rank D n d r ∧ e = .returned (.tuple #[.int .i64 (r : Int), .bool (decide (r < n) && (cmpD (D r) d == 0))]) ∧ Below w.heap.size w w' := by
  have hb : Below w.heap.size w (w.alloc (.cells #[.string d.1, .int .u64 d.2] 33)) := (Below.refl _ _).alloc (Nat.le_refl _) _
  have HC : Hid (Calls Try.prog 15 #[.agg #[.slice sl n cap], .agg #[.string d.1, .int .u64 d.2]] (w.alloc (.cells #[.string d.1, .int .u64 d.2] 33)) _) := search_any sl n cap D d _ hn (hR.keep hb) hS
  have HB : Hid (Below w.heap.size w (w.alloc (.cells #[.string d.1, .int .u64 d.2] 33))) := hb
  clear hb hR hS
  go_enter Try.func10, Try.ntmps10
  go_wp2_with fail
  refine HC.out.mono ?_
  rintro e w' ⟨r, hr, rfl, hb⟩
  have HK : Hid (Rank D n d r) := hr
  clear hr HC
  generalize hbb : (decide (r < n) && (cmpD (D r) d == 0)) = bb
  have HBB : Hid ((decide (r < n) && (cmpD (D r) d == 0)) = bb) := hbb
  clear hbb
  go_wp2_with fail
  go_ret2
  exact ⟨r, HK.out, by rw [HBB.out]; rfl, HB.out.trans (hb.mono HB.out.size)⟩
end Go.Proofs.Qxb6612292a
