import Derived.Test.Qxb6606085aBase
import Derived.Deep.QuietTactic
import Derived.BigQuiet
import Derived.BigRegion
namespace Go.Proofs.Qxb6606085a
open Go.RowKit Go.Maps
set_option linter.unusedVariables false

/-- A row of n cells, cell i holding g i. -/
def rowV (n : Nat) (g : Nat → Value) : Array Value := ((List.range n).map g).toArray
theorem rowV_get {n : Nat} {g : Nat → Value} {i : Nat} (h : i < n) : (rowV n g)[i]? = some (g i) := by simp [rowV, h]
theorem rowV_size (n : Nat) (g : Nat → Value) : (rowV n g).size = n := by simp [rowV]
theorem rowV_set {n : Nat} {g : Nat → Value} {k : Nat} (v : Value) : (rowV n g).setIfInBounds k v = rowV n (fun i => if i = k then v else g i) := by
  apply Array.ext_getElem?
  intro i
  by_cases hi : i < n
  · rw [rowV_get hi, Array.getElem?_setIfInBounds]
    by_cases e : k = i
    · subst e; simp [rowV_size, hi]
    · rw [if_neg e, rowV_get hi, if_neg (fun h => e h.symm)]
  · rw [Array.getElem?_eq_none (by simp [rowV_size]; omega), Array.getElem?_eq_none (by simp [rowV_size]; omega)]
theorem rowV_congr {n : Nat} {g h : Nat → Value} (e : ∀ i, i < n → g i = h i) : rowV n g = rowV n h := by
  unfold rowV
  congr 1
  apply List.map_congr_left
  intro i hi
  exact e i (by simpa using hi)
theorem made_row (z : Value) (hz : z.cells = #[z]) (n : Nat) : madeCells z.cells n = rowV n (fun _ => z) := by
  apply Array.ext_getElem?
  intro i
  by_cases hi : i < n
  · rw [rowV_get hi]; simp [madeCells, hz, hi, Nat.mod_one]
  · rw [Array.getElem?_eq_none (by simp [size_madeCells]; omega), Array.getElem?_eq_none (by simp [rowV_size]; omega)]

theorem make23 (n : Nat) (h : n ≤ 2 ^ 20) (w : World) : (Instr.makeSlice 23 (.int .i64 (n : Int)) (.int .i64 (n : Int))).run Try.prog w = .ok (.slice (some ⟨w.heap.size, 0, .none⟩) n n) (w.alloc (.cells (rowV n fun _ => .int .u64 0) 22)) := by
  obtain ⟨i0, hi, hz0, hz1, hz2⟩ := info_parts (show (Try.prog.info? 22).map (fun i => (i.zero, i.size, i.bytes)) = some (some (.int .u64 0), 1, 8) by kernel_rfl)
  have := run_make (P := Try.prog) w 23 22 i0 (.int .u64 0) Try.underlying23 hi hz0 .i64 .i64 n n (by omega) (by omega) (by rw [hz2]; omega) (by omega)
  rw [this, hz1, made_row _ (by rfl)]
  simp
theorem make24 (n : Nat) (h : n ≤ 2 ^ 20) (w : World) : (Instr.makeSlice 24 (.int .i64 (n : Int)) (.int .i64 (n : Int))).run Try.prog w = .ok (.slice (some ⟨w.heap.size, 0, .none⟩) n n) (w.alloc (.cells (rowV n fun _ => .bool false) 4)) := by
  obtain ⟨i0, hi, hz0, hz1, hz2⟩ := info_parts (show (Try.prog.info? 4).map (fun i => (i.zero, i.size, i.bytes)) = some (some (.bool false), 1, 1) by kernel_rfl)
  have := run_make (P := Try.prog) w 24 4 i0 (.bool false) Try.underlying24 hi hz0 .i64 .i64 n n (by omega) (by omega) (by rw [hz2]; omega) (by omega)
  rw [this, hz1, made_row _ (by rfl)]
  simp

section
variable {w : World} {M B L n : Nat} {x : St} {ttl : Nat → Int} {en : Nat → Bool}

set_option maxHeartbeats 400000 in
theorem clock_any (T : TabS w M B L n x ttl en) :
    Calls Try.prog 9 #[.pointer (some ⟨B, 0, .none⟩)] w fun e w' => e = .returned (.int .u64 x.c) ∧ w' = w := by
  obtain ⟨hB, h0, h1, h2, h3, h4, h5, f0, f1, f2, f3, f4⟩ := T.facts
  clear T
  go_enter Try.func9, Try.ntmps9
  go_wp2
  go_ret
  exact ⟨rfl, rfl⟩

set_option maxHeartbeats 400000 in
theorem last_any (T : TabS w M B L n x ttl en) :
    Calls Try.prog 11 #[.pointer (some ⟨B, 0, .none⟩)] w fun e w' => e = .returned (.agg #[.int .u64 x.t, .int .u64 x.s, .int .u64 x.wl, .int .u64 0]) ∧ w' = w.alloc (.cells #[.int .u64 x.t, .int .u64 x.s, .int .u64 x.wl, .int .u64 0] 29) := by
  obtain ⟨hB, h0, h1, h2, h3, h4, h5, f0, f1, f2, f3, f4⟩ := T.facts
  clear T
  go_enter Try.func11, Try.ntmps11
  go_wp2
  exact bodyPost_ret (v := .agg #[.int .u64 x.t, .int .u64 x.s, .int .u64 x.wl, .int .u64 0]) (by simp [results, Try.results11, go_sem]) rfl ⟨rfl, rfl⟩

set_option maxHeartbeats 400000 in
theorem count_any (T : TabS w M B L n x ttl en) :
    Calls Try.prog 17 #[.pointer (some ⟨B, 0, .none⟩)] w fun e w' => e = .returned (.int .i64 (n : Int)) ∧ w' = w := by
  obtain ⟨hB, h0, h1, h2, h3, h4, h5, f0, f1, f2, f3, f4⟩ := T.facts
  obtain ⟨D, hown, hD⟩ := T.own
  have HD : Hid (Maps.size D = n) := hD.sz
  clear T hD
  go_enter Try.func17, Try.ntmps17
  go_wp2_with (first | (at_len; refine wpList_len_own _ rfl _ 39 rfl 22 45 Try.underlying39 _ M n D rfl hown ?_) | go_in)
  go_ret
  exact ⟨by rw [HD.out]; rfl, rfl⟩

set_option maxHeartbeats 400000 in
theorem dead_any (T : TabS w M B L n x ttl en) (i : Nat) (hi : i < n) (hn : n ≤ 2 ^ 20) :
    Calls Try.prog 16 #[.pointer (some ⟨B, 0, .none⟩), .int .u64 (i : Int)] w fun e w' => e = .returned (.int .u64 (x.dl i)) ∧ w' = w := by
  obtain ⟨hB, h0, h1, h2, h3, h4, h5, f0, f1, f2, f3, f4⟩ := T.facts
  obtain ⟨D, hown, hD⟩ := T.own
  have q1 : w.cell? ⟨L + i, 1, .none⟩ = some (.int .u64 (x.dl i)) := T.lcell hi 1
  have HD : Hid (Dat L n D) := hD
  clear T hD
  go_enter Try.func16, Try.ntmps16
  go_wp2_with (first | (at_lookup; refine wpList_lookup_tab rfl _ _ rfl rfl hown HD.out i hi (by omega) rfl ?_) | go_in)
  go_ret
  exact ⟨rfl, rfl⟩

/-- A slice of n numbers, cell i holding f i. -/
def Sl (w : World) (sl : Option Addr) (n : Nat) (f : Nat → Value) : Prop := 0 < n → ∃ P, sl = some ⟨P, 0, .none⟩ ∧ P < w.heap.size ∧ ∀ i, i < n → w.cell? ⟨P, i, .none⟩ = some (f i)

set_option maxHeartbeats 400000 in
theorem given_any (T : TabS w M B L n x ttl en) (hn : n ≤ 2 ^ 20) (sl : Option Addr) (cap : Nat) (hs : Sl w sl n (fun i => .int .u64 (x.dl i))) :
    Calls Try.prog 12 #[.pointer (some ⟨B, 0, .none⟩), .slice sl n cap] w fun e w' => e = .returned (.bool true) ∧ ∃ k, w' = w.drewN k := by
  have T' : ∀ k, TabS (w.drewN k) M B L n x ttl en := fun k => T.calm ((Upto.refl _ w).drewN k)
  have HT : Hid (∀ k, TabS (w.drewN k) M B L n x ttl en) := T'
  clear T'
  have e0 : ((n : Int) != (n : Int)) = false := by simp
  have HS : Hid (Sl w sl n (fun i => .int .u64 (x.dl i))) := hs
  clear hs
  go_enter Try.func12, Try.ntmps12
  go_wp2_with (first | (go_at_call 17; refine (count_any T).mono ?_; rintro e w' ⟨rfl, hw'⟩; obtain rfl := hw'.symm; clear hw') )
  clear T
  go_loopw [5] (fun i wr => ∃ k m : Nat, k ≤ n ∧ i = .int .i64 (k : Int) ∧ wr = w.drewN m) (fun i _ => n - (intOf i).toNat)
  case atStart => exact ⟨0, 0, Nat.zero_le _, rfl, rfl⟩
  case round =>
    obtain ⟨k, m, hk, rfl, hwr⟩ := hrel
    have Tk : TabS wr M B L n x ttl en := by rw [hwr]; exact HT.out m
    have HW : Hid (wr = w.drewN m) := hwr
    have hcells : ∀ a, w.cell? a = wr.cell? a := fun a => by rw [hwr]; rfl
    clear hwr
    by_cases hlt : k < n
    · obtain ⟨P, rfl, hP, hcell⟩ := HS.out (by omega)
      have hck := hcell k hlt
      rw [hcells] at hck
      clear hcell hcells
      have e1 : (x.dl k != x.dl k) = false := by simp
      have hlt' : (k : Int) < (n : Int) := by omega
      have hwk := wrap_nat (k := k) (by omega)
      go_wp2_with fail
      go_quiet ((go_at_call 16; exact Calls.quiet_of_same (dead_any (Tk.calm ((Upto.refl _ _).drewN _)) k hlt hn)))
      go_wp2
      go_roundw
      case rel => exact ⟨k + 1, _, by omega, by go_num, by rw [HW.out, World.drewN_drewN]⟩
      case measure => simp [intOf]; omega
    · clear hcells
      go_wp2
      go_ret
      exact ⟨rfl, _, HW.out⟩

set_option maxHeartbeats 400000 in
theorem dls_any (T : TabS w M B L n x ttl en) (hn : n ≤ 2 ^ 20) :
    Calls Try.prog 14 #[.pointer (some ⟨B, 0, .none⟩), .int .i64 (n : Int)] w fun e w' => e = .returned (.slice (some ⟨w.heap.size, 0, .none⟩) n n) ∧ Upto (fun _ => False) w w' ∧ w'.heap[w.heap.size]? = some (.cells (rowV n (fun i => .int .u64 (x.dl i))) 22) := by
  have hmk := make23 n hn
  go_enter Try.func14, Try.ntmps14
  go_wp2
  clear hmk
  go_loopw [6] (fun i wr => ∃ k : Nat, k ≤ n ∧ i = .int .i64 (k : Int) ∧ Upto (fun _ => False) w wr ∧ w.heap.size < wr.heap.size ∧ wr.heap[w.heap.size]? = some (.cells (rowV n (fun i => .int .u64 (if i < k then x.dl i else 0))) 22)) (fun i _ => n - (intOf i).toNat)
  case atStart => exact ⟨0, Nat.zero_le _, rfl, (Upto.refl _ w).alloc _, by simp, heap_alloc_new w _⟩
  case round =>
    obtain ⟨k, hk, rfl, hu, hsz, hrow⟩ := hrel
    have HR : Hid (wr.heap[w.heap.size]? = some (.cells (rowV n (fun i => .int .u64 (if i < k then x.dl i else 0))) 22)) := hrow
    by_cases hlt : k < n
    · have hck : wr.cell? ⟨w.heap.size, k, .none⟩ = some (.int .u64 0) := by
        rw [cell_of_row wr _ k _ 22 (0, 0) hrow, rowV_get hlt]; simp
      have hfk : wr.frozen? ⟨w.heap.size, k, .none⟩ = false := frozen_of_row wr _ k _ 22 hrow
      have hlt' : (k : Int) < (n : Int) := by omega
      have hwk := wrap_nat (k := k) (by omega)
      have Tk := T.calm hu
      clear hrow
      go_wp2_with (first | (go_at_call 16; refine (dead_any Tk k hlt hn).mono ?_; rintro e w' ⟨rfl, hw'⟩; obtain rfl := hw'.symm; clear hw'))
      go_roundw
      case rel =>
        refine ⟨k + 1, by omega, by go_num, hu.setCell (p := ⟨w.heap.size, k, .none⟩) (Or.inl (Nat.le_refl _)) _, by simpa [World.setCell] using hsz, ?_⟩
        rw [heap_setCell_same _ _ _ _ _ _ HR.out, rowV_set]
        congr 2
        apply rowV_congr
        intro i hi
        by_cases e : i = k
        · subst e; simp
        · rw [if_neg e]
          by_cases e2 : i < k
          · rw [if_pos e2, if_pos (by omega)]
          · rw [if_neg e2, if_neg (by omega)]
      case measure => simp [intOf]; omega
    · clear hrow
      go_wp2
      go_ret
      refine ⟨rfl, hu, ?_⟩
      rw [HR.out]
      congr 2
      apply rowV_congr
      intro i hi
      rw [if_pos (by omega)]

end
end Go.Proofs.Qxb6606085a
