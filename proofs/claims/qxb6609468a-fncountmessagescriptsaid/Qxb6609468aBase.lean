import Derived.Test.Qxb6609468aRows
import Derived.WalkKit
import Derived.WalkSpells
import Derived.WalkLawsBesides
import Derived.Deep.QuietTactic
import Derived.BigQuiet
import Derived.BigRegion
import Derived.Laws.LoneSync
import Derived.Deep.RegionWith
namespace Go.Proofs.Qxb6609468a
open Go.RowKit
set_option linter.unusedVariables false

/-- A row of n cells, cell i holding g i. -/
def rowV (n : Nat) (g : Nat → Value) : Array Value := ((List.range n).map g).toArray
theorem rowV_get {n : Nat} {g : Nat → Value} {i : Nat} (h : i < n) : (rowV n g)[i]? = some (g i) := by simp [rowV, h]
theorem rowV_size (n : Nat) (g : Nat → Value) : (rowV n g).size = n := by simp [rowV]
theorem rowV_set {n : Nat} {g : Nat → Value} {k : Nat} (v : Value) : (rowV n g).setIfInBounds k v = rowV n (fun i => if i = k then v else g i) := by
  apply Array.ext_getElem?
  intro i
  by_cases hi : i < n
  · rw [rowV_get hi, Array.getElem?_setIfInBounds]
    by_cases e : k = i
    · subst e; simp [rowV_size, hi]
    · rw [if_neg e, rowV_get hi, if_neg (fun h => e h.symm)]
  · rw [Array.getElem?_eq_none (by simp [rowV_size]; omega), Array.getElem?_eq_none (by simp [rowV_size]; omega)]
theorem rowV_congr {n : Nat} {g h : Nat → Value} (e : ∀ i, i < n → g i = h i) : rowV n g = rowV n h := by
  unfold rowV
  congr 1
  apply List.map_congr_left
  intro i hi
  exact e i (by simpa using hi)

/-- The Traffic lies in block b: 256 pairs of counters, and the malformed pair behind them. -/
def Traf (w : World) (b : Nat) (f : Nat → Int) : Prop := w.heap[b]? = some (.cells (rowV 514 (fun j => .int .u64 (f j))) 36)
theorem Traf.cell {w : World} {b : Nat} {f : Nat → Int} (h : Traf w b f) {j : Nat} (hj : j < 514) : w.cell? ⟨b, j, none⟩ = some (.int .u64 (f j)) := by
  rw [cell_of_row w b j _ 36 (0, 0) h, rowV_get hj]
theorem Traf.froz {w : World} {b : Nat} {f : Nat → Int} (h : Traf w b f) (j : Nat) : w.frozen? ⟨b, j, none⟩ = false := frozen_of_row w b j _ 36 h
theorem Traf.set {w : World} {b : Nat} {f : Nat → Int} (h : Traf w b f) (k : Nat) (v : Int) : Traf (w.setCell ⟨b, k, none⟩ (.int .u64 v)) b (fun j => if j = k then v else f j) := by
  unfold Traf
  rw [heap_setCell_same _ _ _ _ _ _ h, rowV_set]
  exact congrArg (fun r => some (Obj.cells r 36 (0, 0))) (rowV_congr (fun i _ => by
    show (if i = k then Value.int .u64 v else Value.int .u64 (f i)) = Value.int .u64 (if i = k then v else f i)
    by_cases e : i = k
    · rw [if_pos e, if_pos e]
    · rw [if_neg e, if_neg e]))

/-- One step of the script. -/
def step (f : Nat → Int) (ty : Nat) (sz : Int) (j : Nat) : Int :=
  if j = 2 * ty + 1 then IntKind.u64.wrap (f j + IntKind.u64.wrap sz) else if j = 2 * ty then IntKind.u64.wrap (f j + 1) else f j
def runF (ty : Nat → Nat) (sz : Nat → Int) : Nat → Nat → Int
  | 0 => fun _ => 0
  | k + 1 => step (runF ty sz k) (ty k) (sz k)
theorem runF_mal {ty : Nat → Nat} {sz : Nat → Int} {n : Nat} (h : ∀ i, i < n → ty i < 256) {j : Nat} (hj : 512 ≤ j) : ∀ k, k ≤ n → runF ty sz k j = 0
  | 0, _ => rfl
  | k + 1, hk => by
    have := h k (by omega)
    simp only [runF, step]
    rw [if_neg (by omega), if_neg (by omega)]
    exact runF_mal h hj k (by omega)

theorem add_run {a : Addr} {x y : Int} {w : World} (hc : w.cell? a = some (.int .u64 x)) (hz : w.frozen? a = false) :
    (callFunc 12 #[.pointer (some a), .int .u64 y]).run Try.prog w = .ok (.value (.int .u64 (IntKind.u64.wrap (x + y)))) (w.setCell a (.int .u64 (IntKind.u64.wrap (x + y)))) :=
  run_call_add (P := Try.prog) Try.func12 (by kernel_rfl) (by kernel_rfl) (by kernel_rfl) .u64 (by kernel_rfl) hc hz (by simp [go_sem])
theorem load_run {a : Addr} {x : Int} {w : World} (hc : w.cell? a = some (.int .u64 x)) :
    (callFunc 11 #[.pointer (some a)]).run Try.prog w = .ok (.value (.int .u64 x)) w :=
  run_call_load (P := Try.prog) Try.func11 (by kernel_rfl) (by kernel_rfl) (by kernel_rfl) .u64 (by kernel_rfl) hc

set_option maxHeartbeats 400000 in
theorem Add_any (b o : Nat) (x y : Int) (w : World) (hc : w.cell? ⟨b, o, none⟩ = some (.int .u64 x)) (hz : w.frozen? ⟨b, o, none⟩ = false) :
    Calls Try.prog 10 #[.pointer (some ⟨b, o, none⟩), .int .u64 y] w fun e w' => e = .returned (.int .u64 (IntKind.u64.wrap (x + y))) ∧ w' = w.setCell ⟨b, o, none⟩ (.int .u64 (IntKind.u64.wrap (x + y))) := by
  have hr := add_run (y := y) hc hz
  go_enter Try.func10, Try.ntmps10
  go_wp2
  go_ret
  exact ⟨rfl, rfl⟩

set_option maxHeartbeats 400000 in
theorem Load_any (b o : Nat) (x : Int) (w : World) (hc : w.cell? ⟨b, o, none⟩ = some (.int .u64 x)) :
    Calls Try.prog 9 #[.pointer (some ⟨b, o, none⟩)] w fun e w' => e = .returned (.int .u64 x) ∧ w' = w := by
  have hr := load_run hc
  go_enter Try.func9, Try.ntmps9
  go_wp2
  go_ret
  exact ⟨rfl, rfl⟩

set_option maxHeartbeats 400000 in
theorem add_any (b o : Nat) (x y s : Int) (w : World) (hc : w.cell? ⟨b, o, none⟩ = some (.int .u64 x)) (hz : w.frozen? ⟨b, o, none⟩ = false) (hc1 : w.cell? ⟨b, o + 1, none⟩ = some (.int .u64 y)) (hz1 : w.frozen? ⟨b, o + 1, none⟩ = false) :
    Calls Try.prog 8 #[.pointer (some ⟨b, o, none⟩), .int .i64 s] w fun e w' => e = .returned (.tuple #[]) ∧ w' = (w.setCell ⟨b, o, none⟩ (.int .u64 (IntKind.u64.wrap (x + 1)))).setCell ⟨b, o + 1, none⟩ (.int .u64 (IntKind.u64.wrap (y + IntKind.u64.wrap s))) := by
  have hc2 : (w.setCell ⟨b, o, none⟩ (.int .u64 (IntKind.u64.wrap (x + 1)))).cell? ⟨b, o + 1, none⟩ = some (.int .u64 y) := (World.cell?_setCell_other _ ⟨b, o, none⟩ ⟨b, o + 1, none⟩ _ (by simp)).trans hc1
  have hz2 : (w.setCell ⟨b, o, none⟩ (.int .u64 (IntKind.u64.wrap (x + 1)))).frozen? ⟨b, o + 1, none⟩ = false := by rw [World.frozen?_setCell]; exact hz1
  go_enter Try.func8, Try.ntmps8
  go_wp2_with fail
  refine (Add_any b o x 1 w hc hz).mono ?_
  rintro e w' ⟨rfl, rfl⟩
  go_wp2_with fail
  refine (Add_any b (o + 1) y (IntKind.u64.wrap s) _ hc2 hz2).mono ?_
  rintro e w' ⟨rfl, rfl⟩
  go_wp2_with fail
  go_end0
  exact ⟨rfl, rfl⟩

set_option maxHeartbeats 400000 in
theorem count_any (b k : Nat) (hk : k < 256) (f : Nat → Int) (s : Int) (w : World) (T : Traf w b f) :
    Calls Try.prog 5 #[.pointer (some ⟨b, 0, none⟩), .int .u8 (k : Int), .int .i64 s] w fun e w' => e = .returned (.tuple #[]) ∧ Traf w' b (step f k s) ∧ w'.heap.size = w.heap.size ∧ Below b w w' := by
  have hk' : (k : Int) < 256 := by omega
  have HA := add_any b (k * 2) (f (k * 2)) (f (k * 2 + 1)) s w (T.cell (by omega)) (T.froz _) (T.cell (by omega)) (T.froz _)
  have HT : Hid (Traf w b f) := T
  clear T
  go_enter Try.func5, Try.ntmps5
  go_wp2_with fail
  refine HA.mono ?_
  rintro e w' ⟨rfl, rfl⟩
  go_wp2_with fail
  go_end0
  refine ⟨rfl, ?_, by simp [World.setCell], ((Below.refl _ _).setCell (p := ⟨b, k * 2, none⟩) (Nat.le_refl _) _).setCell (p := ⟨b, k * 2 + 1, none⟩) (Nat.le_refl _) _⟩
  have h := (HT.out.set (k * 2) (IntKind.u64.wrap (f (k * 2) + 1))).set (k * 2 + 1) (IntKind.u64.wrap (f (k * 2 + 1) + IntKind.u64.wrap s))
  have e : (fun j => if j = k * 2 + 1 then IntKind.u64.wrap (f (k * 2 + 1) + IntKind.u64.wrap s) else if j = k * 2 then IntKind.u64.wrap (f (k * 2) + 1) else f j) = step f k s := by
    funext j
    unfold step
    rw [show 2 * k = k * 2 from by omega]
    by_cases h1 : j = k * 2 + 1
    · subst h1; simp
    · rw [if_neg h1, if_neg h1]
      by_cases h2 : j = k * 2
      · subst h2; simp
      · rw [if_neg h2, if_neg h2]
  rw [← e]
  exact h

set_option maxHeartbeats 400000 in
theorem tally_any (b k : Nat) (hk : k < 256) (f : Nat → Int) (w : World) (T : Traf w b f) :
    Calls Try.prog 6 #[.pointer (some ⟨b, 0, none⟩), .int .u8 (k : Int)] w fun e w' => e = .returned (.tuple #[.int .u64 (f (k * 2)), .int .u64 (f (k * 2 + 1))]) ∧ ∃ m, w' = w.drewN m := by
  have hk' : (k : Int) < 256 := by omega
  have G1 : Hid (∀ m, Calls Try.prog 9 #[.pointer (some ⟨b, k * 2, none⟩)] (w.drewN m) fun e w' => e = .returned (.int .u64 (f (k * 2))) ∧ w' = w.drewN m) := fun m => Load_any b (k * 2) (f (k * 2)) (w.drewN m) (T.cell (j := k * 2) (by omega))
  have G2 : Hid (∀ m, Calls Try.prog 9 #[.pointer (some ⟨b, k * 2 + 1, none⟩)] (w.drewN m) fun e w' => e = .returned (.int .u64 (f (k * 2 + 1))) ∧ w' = w.drewN m) := fun m => Load_any b (k * 2 + 1) (f (k * 2 + 1)) (w.drewN m) (T.cell (j := k * 2 + 1) (by omega))
  clear T
  go_enter Try.func6, Try.ntmps6
  go_wp2_with fail
  go_quiet ((first | exact Calls.quiet_of_same (G1.out _) | exact Calls.quiet_of_same (G2.out _)))
  go_wp2
  go_ret2
  exact ⟨rfl, _, rfl⟩

set_option maxHeartbeats 400000 in
theorem mal_any (b : Nat) (f : Nat → Int) (w : World) (T : Traf w b f) :
    Calls Try.prog 7 #[.pointer (some ⟨b, 0, none⟩)] w fun e w' => e = .returned (.tuple #[.int .u64 (f 512), .int .u64 (f 513)]) ∧ ∃ m, w' = w.drewN m := by
  have HT : Hid (Traf w b f) := T
  clear T
  go_enter Try.func7, Try.ntmps7
  go_wp2_with fail
  go_quiet ((first | (go_at_call_of 9 (Value.pointer (some ⟨b, 512, none⟩)); exact Calls.quiet_of_same (Load_any b 512 (f 512) _ (show w.cell? _ = _ from HT.out.cell (by omega)))) | (go_at_call_of 9 (Value.pointer (some ⟨b, 513, none⟩)); exact Calls.quiet_of_same (Load_any b 513 (f 513) _ (show w.cell? _ = _ from HT.out.cell (by omega))))))
  go_wp2
  go_ret2
  exact ⟨rfl, _, rfl⟩

theorem alloc36 (w : World) : (Instr.alloc 36 true (.tuple #[])).run Try.prog w = .ok (.pointer (some ⟨w.heap.size, 0, none⟩)) (w.alloc (.cells (rowV 514 fun _ => .int .u64 0) 36)) := by kernel_rfl

set_option maxHeartbeats 400000 in
theorem bytes_any (w : World) (a0 a1 : Option Addr) (l0 l1 c0 c1 : Nat) (h0 : l0 ≤ maxLen) (h1 : l1 ≤ maxLen) :
    Calls Try.prog 4 #[.slice a0 l0 c0, .slice a1 l1 c1] w fun e w' => (∃ b, e = .returned (.bool b)) ∧ w' = w := by
  unfold maxLen at h0 h1
  go_enter Try.func4, Try.ntmps4
  go_wp2
  all_goals (go_ret; exact ⟨⟨_, rfl⟩, rfl⟩)

theorem wpList_alloc36 {w : World} {ops : Array Oper} {rest : List Oper} {o : Oper} {a : Act} {Q : Exit → Act → World → Prop} (hg : o.guard = none) (hop : o.op = Op.alloc 36)
    (hK : wpList Try.prog ops Q rest (a.put o.dst (.pointer (some ⟨w.heap.size, 0, none⟩))) (w.alloc (.cells (rowV 514 fun _ => .int .u64 0) 36))) : wpList Try.prog ops Q (o :: rest) a w := by
  refine wpList_plain hg fun K' hK' => ?_
  have hrun := alloc36 w
  unfold Oper.wp
  simp only [execOp, hop]
  rw [show (do let __do_lift ← Instr.alloc 36 true (.tuple #[]); pure (Next.value __do_lift) : Sem Next).run Try.prog w = .ok (.value (.pointer (some ⟨w.heap.size, 0, none⟩))) (w.alloc (.cells (rowV 514 fun _ => .int .u64 0) 36)) from by simp [hrun, Result.andThen]]
  exact hK' _ _ hK
end Go.Proofs.Qxb6609468a
