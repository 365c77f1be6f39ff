import Derived.Test.Qxb6612292aDots
namespace Go.Proofs.Qxb6612292a
open Go.RowKit
set_option linter.unusedVariables false
set_option linter.unusedSimpArgs false

/-- A row of n cells, cell i holding g i. -/
def rowV (n : Nat) (g : Nat → Value) : Array Value := ((List.range n).map g).toArray
theorem rowV_get {n : Nat} {g : Nat → Value} {i : Nat} (h : i < n) : (rowV n g)[i]? = some (g i) := by simp [rowV, h]
theorem rowV_size (n : Nat) (g : Nat → Value) : (rowV n g).size = n := by simp [rowV]
theorem rowV_set {n : Nat} {g : Nat → Value} {k : Nat} (v : Value) : (rowV n g).setIfInBounds k v = rowV n (fun i => if i = k then v else g i) := by
  apply Array.ext_getElem?
  intro i
  by_cases hi : i < n
  · rw [rowV_get hi, Array.getElem?_setIfInBounds]
    by_cases e : k = i
    · subst e; simp [rowV_size, hi]
    · rw [if_neg e, rowV_get hi, if_neg (fun h => e h.symm)]
  · rw [Array.getElem?_eq_none (by simp [rowV_size]; omega), Array.getElem?_eq_none (by simp [rowV_size]; omega)]
theorem rowV_congr {n : Nat} {g h : Nat → Value} (e : ∀ i, i < n → g i = h i) : rowV n g = rowV n h := by
  unfold rowV
  congr 1
  apply List.map_congr_left
  intro i hi
  exact e i (by simpa using hi)

/-- The cells of a row of dots. -/
def cellOf (D : Nat → Dt) (j : Nat) : Value := if j % 2 = 0 then .string (D (j / 2)).1 else .int .u64 (D (j / 2)).2
def zeroC (j : Nat) : Value := if j % 2 = 0 then .string ByteArray.empty else .int .u64 0
/-- The first k dots are laid, the rest of the n is zero. -/
def part (D : Nat → Dt) (k j : Nat) : Value := if j < k * 2 then cellOf D j else zeroC j

theorem cellOf_0 (D : Nat → Dt) (k : Nat) : cellOf D (k * 2) = .string (D k).1 := by unfold cellOf; rw [if_pos (by omega), show k * 2 / 2 = k from by omega]
theorem cellOf_1 (D : Nat → Dt) (k : Nat) : cellOf D (k * 2 + 1) = .int .u64 (D k).2 := by unfold cellOf; rw [if_neg (by omega), show (k * 2 + 1) / 2 = k from by omega]
theorem part_set (D : Nat → Dt) (n k : Nat) : ((rowV (n * 2) (part D k)).setIfInBounds (k * 2) (.string (D k).1)).setIfInBounds (k * 2 + 1) (.int .u64 (D k).2) = rowV (n * 2) (part D (k + 1)) := by
  rw [rowV_set, rowV_set]
  apply rowV_congr
  intro i hi
  by_cases e1 : i = k * 2 + 1
  · subst e1; rw [if_pos rfl]; unfold part; rw [if_pos (by omega), cellOf_1]
  · rw [if_neg e1]
    by_cases e2 : i = k * 2
    · subst e2; rw [if_pos rfl]; unfold part; rw [if_pos (by omega), cellOf_0]
    · rw [if_neg e2]
      unfold part
      by_cases e3 : i < k * 2
      · rw [if_pos e3, if_pos (by omega)]
      · rw [if_neg e3, if_neg (by omega)]

theorem rw_of_row {w : World} {g n : Nat} {D : Nat → Dt} {t : TypeId} {f : Nat → Value} {m : Nat} (h : w.heap[g]? = some (.cells (rowV m f) t)) (hm : n * 2 ≤ m) (hf : ∀ j, j < n * 2 → f j = cellOf D j) : Rw w (some ⟨g, 0, none⟩) n D := by
  intro h0
  refine ⟨g, 0, rfl, (Array.getElem?_eq_some_iff.1 h).1, fun i hi => ⟨?_, ?_⟩⟩
  · rw [cell_of_row w g _ _ t (0, 0) h, rowV_get (by omega), hf _ (by omega), show 0 + i * 2 = i * 2 from by omega, cellOf_0]
  · rw [cell_of_row w g _ _ t (0, 0) h, rowV_get (by omega), hf _ (by omega), show 0 + i * 2 + 1 = i * 2 + 1 from by omega, cellOf_1]

theorem made2 (m : Nat) : madeCells (Value.agg #[.string ByteArray.empty, .int .u64 0]).cells m = rowV m zeroC := by
  apply Array.ext_getElem?
  intro i
  by_cases hi : i < m
  · rw [rowV_get hi]
    simp only [madeCells, Value.cells, Array.getElem?_map, Array.getElem?_range, hi, if_true, Option.map_some]
    unfold zeroC
    by_cases e : i % 2 = 0
    · simp [e]
    · have : i % 2 = 1 := by omega
      simp [this]
  · rw [Array.getElem?_eq_none (by simp [size_madeCells]; omega), Array.getElem?_eq_none (by simp [rowV_size]; omega)]

theorem make27 (n : Nat) (h : n ≤ 2 ^ 20) (w : World) : (Instr.makeSlice 27 (.int .i64 (n : Int)) (.int .i64 (n : Int))).run Try.prog w = .ok (.slice (some ⟨w.heap.size, 0, none⟩) n n) (w.alloc (.cells (rowV (n * 2) zeroC) 33)) := by
  obtain ⟨i0, hi, hz0, hz1, hz2⟩ := info_parts (show (Try.prog.info? 33).map (fun i => (i.zero, i.size, i.bytes)) = some (some (.agg #[.string ByteArray.empty, .int .u64 0]), 2, 24) by kernel_rfl)
  have := run_make (P := Try.prog) w 27 33 i0 (.agg #[.string ByteArray.empty, .int .u64 0]) Try.underlying27 hi hz0 .i64 .i64 n n (by omega) (by omega) (by rw [hz2]; omega) (by omega)
  rw [this, hz1, made2]
  simp

/-- A slice of the n dots comes back, in new memory. -/
def IsC (w : World) (n : Nat) (D : Nat → Dt) (e : Ending) (w' : World) : Prop := ∃ sl' cap', e = .returned (.slice sl' n cap') ∧ Rw w' sl' n D ∧ Below w.heap.size w w'

set_option maxHeartbeats 1000000 in
theorem conv_any (sl : Option Addr) (n cap : Nat) (D : Nat → Dt) (w : World) (hn : n ≤ 2 ^ 20) (hR : Rw w sl n D) (hnil : sl = none → n = 0) :
    Calls Try.prog 9 #[.slice sl n cap] w fun e w' => IsC w n D e w' := by
  have n1 := fun (w : World) a n c => Lib.run_eql_slice_nil (P := Try.prog) w 22 30 a n c 0 0 Try.underlying22
  have hmk := make27 n hn
  have HR : Hid (Rw w sl n D) := hR
  clear hR
  cases sl with
  | none =>
    obtain rfl : n = 0 := hnil rfl
    go_enter Try.func9, Try.ntmps9
    go_wp2
    go_ret
    exact ⟨none, 0, rfl, (fun h => by omega), Below.refl _ _⟩
  | some ad =>
    clear hnil
    go_enter Try.func9, Try.ntmps9
    go_wp2
    clear hmk n1
    go_loopw [4] (fun v4 wr => ∃ k : Nat, k ≤ n ∧ v4 = .int .i64 (k : Int) ∧ Below w.heap.size w wr ∧ wr.heap[w.heap.size]? = some (.cells (rowV (n * 2) (part D k)) 33)) (fun i _ => n - (intOf i).toNat)
    case atStart => exact ⟨0, Nat.zero_le _, rfl, (Below.refl _ _).alloc (Nat.le_refl _) _, (heap_alloc_new w _).trans (by rw [show rowV (n * 2) (part D 0) = rowV (n * 2) zeroC from rowV_congr (fun i _ => by unfold part; rw [if_neg (by omega)])])⟩
    case round =>
      obtain ⟨k, hk, rfl, hb, hrow⟩ := hrel
      have HB : Hid (Below w.heap.size w wr ∧ wr.heap[w.heap.size]? = some (.cells (rowV (n * 2) (part D k)) 33)) := ⟨hb, hrow⟩
      by_cases hlt : k < n
      · obtain ⟨b, o, e, hbl, hc⟩ := (HR.out.keep hb) (by omega)
        cases e
        obtain ⟨c0, c1⟩ := hc k hlt
        have z0 : wr.cell? ⟨w.heap.size, k * 2, none⟩ = some (.string ByteArray.empty) := by
          rw [cell_of_row wr _ _ _ 33 (0, 0) hrow, rowV_get (by omega)]; unfold part zeroC; rw [if_neg (by omega), if_pos (by omega)]
        have z1 : wr.cell? ⟨w.heap.size, k * 2 + 1, none⟩ = some (.int .u64 0) := by
          rw [cell_of_row wr _ _ _ 33 (0, 0) hrow, rowV_get (by omega)]; unfold part zeroC; rw [if_neg (by omega), if_neg (by omega)]
        have f0 : wr.frozen? ⟨w.heap.size, k * 2, none⟩ = false := frozen_of_row wr _ _ _ 33 hrow
        have f1 : wr.frozen? ⟨w.heap.size, k * 2 + 1, none⟩ = false := frozen_of_row wr _ _ _ 33 hrow
        clear hc hb hrow
        have hlt' : (k : Int) < (n : Int) := by omega
        have HS : Hid (∀ m, Below w.heap.size w (((wr.setCell ⟨w.heap.size, k * 2, none⟩ (.string (D k).1)).setCell ⟨w.heap.size, k * 2 + 1, none⟩ (.int .u64 (D k).2)).drewN m) ∧ (((wr.setCell ⟨w.heap.size, k * 2, none⟩ (.string (D k).1)).setCell ⟨w.heap.size, k * 2 + 1, none⟩ (.int .u64 (D k).2)).drewN m).heap[w.heap.size]? = some (.cells (rowV (n * 2) (part D (k + 1))) 33)) := fun m => by
          refine ⟨below_drewN ((HB.out.1.setCell (p := ⟨w.heap.size, k * 2, none⟩) (Nat.le_refl _) _).setCell (p := ⟨w.heap.size, k * 2 + 1, none⟩) (Nat.le_refl _) _) m, ?_⟩
          rw [World.heap_drewN, heap_setCell_same _ _ _ _ _ _ (heap_setCell_same _ _ _ _ _ _ HB.out.2), part_set]
        generalize (D k).1 = s0 at c0 HS ⊢
        generalize (D k).2 = q0 at c1 HS ⊢
        go_wp2
        go_region
        go_wp2
        go_roundw
        case rel => exact ⟨k + 1, by omega, by go_num, HS.out 1⟩
        case measure => simp [intOf]; omega
      · obtain rfl : n = k := by omega
        clear hb hrow
        go_wp2
        go_ret
        exact ⟨_, n, rfl, rw_of_row HB.out.2 (Nat.le_refl _) (fun j hj => by unfold part; rw [if_pos hj]), HB.out.1⟩
end Go.Proofs.Qxb6612292a
