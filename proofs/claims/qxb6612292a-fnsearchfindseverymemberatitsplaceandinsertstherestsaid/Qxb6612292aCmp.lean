import Derived.Test.Qxb6612292aPlain
import Derived.WalkKit
import Derived.WalkSpells
import Derived.WalkLawsBesides
import Derived.Deep.QuietTactic
import Derived.BigQuiet
import Derived.BigRegion
import Derived.Deep.RegionHeld
import Derived.Deep.DeepCutAuto
namespace Go.Proofs.Qxb6612292a
open Go.RowKit
set_option linter.unusedVariables false
set_option linter.unusedSimpArgs false

set_option maxHeartbeats 400000 in
theorem cmpS_any (x y : ByteArray) (w : World) :
    Calls Try.prog 20 #[.string x, .string y] w fun e w' => e = .returned (.int .i64 (cmpS x.toList y.toList)) ∧ w' = w := by
  unfold cmpS
  cases h1 : Op.bytesLess x.toList y.toList
  · cases h2 : (x.toList == y.toList)
    · go_enter Try.func20, Try.ntmps20
      go_wp2
      go_ret
      exact ⟨rfl, rfl⟩
    · go_enter Try.func20, Try.ntmps20
      go_wp2
      go_ret
      exact ⟨rfl, rfl⟩
  · go_enter Try.func20, Try.ntmps20
    go_wp2
    go_ret
    exact ⟨rfl, rfl⟩

set_option maxHeartbeats 400000 in
theorem cmpI_any (x y : Int) (w : World) :
    Calls Try.prog 21 #[.int .u64 x, .int .u64 y] w fun e w' => e = .returned (.int .i64 (cmpI x y)) ∧ w' = w := by
  have e1 : (x != x) = false := by simp
  have e2 : (y != y) = false := by simp
  unfold cmpI
  by_cases h1 : x < y
  · rw [if_pos h1]
    go_enter Try.func21, Try.ntmps21
    go_wp2
    go_ret
    exact ⟨rfl, rfl⟩
  · rw [if_neg h1]
    by_cases h2 : y < x
    · rw [if_pos h2]
      go_enter Try.func21, Try.ntmps21
      go_wp2
      go_ret
      exact ⟨rfl, rfl⟩
    · rw [if_neg h2]
      go_enter Try.func21, Try.ntmps21
      go_wp2
      go_ret
      exact ⟨rfl, rfl⟩

set_option maxHeartbeats 400000 in
theorem or_any (b : Nat) (x y : Int) (w : World) (h0 : w.cell? ⟨b, 0, none⟩ = some (.int .i64 x)) (h1 : w.cell? ⟨b, 1, none⟩ = some (.int .i64 y)) :
    Calls Try.prog 19 #[.slice (some ⟨b, 0, none⟩) 2 2] w fun e w' => e = .returned (.int .i64 (if x != 0 then x else y)) ∧ w' = w := by
  cases hx : (x != 0)
  · cases hy : (y != 0)
    · have e : y = 0 := by simpa using hy
      go_enter Try.func19, Try.ntmps19
      go_wp2
      refine wp_loop_rounds 3 ?_
      rw [rounds_succ]
      go_wp2
      rw [rounds_succ]
      go_wp2
      rw [rounds_succ]
      go_wp2
      go_ret
      exact ⟨by simp, rfl⟩
    · go_enter Try.func19, Try.ntmps19
      go_wp2
      refine wp_loop_rounds 3 ?_
      rw [rounds_succ]
      go_wp2
      rw [rounds_succ]
      go_wp2
      go_ret
      exact ⟨rfl, rfl⟩
  · go_enter Try.func19, Try.ntmps19
    go_wp2
    refine wp_loop_rounds 3 ?_
    rw [rounds_succ]
    go_wp2
    go_ret
    exact ⟨rfl, rfl⟩

set_option maxHeartbeats 400000 in
theorem less_any (a b : Dt) (w : World) :
    Calls Try.prog 11 #[.agg #[.string a.1, .int .u64 a.2], .agg #[.string b.1, .int .u64 b.2]] w fun e w' => e = .returned (.bool (lessD a b)) ∧ w' = (w.alloc (.cells #[.string a.1, .int .u64 a.2] 30)).alloc (.cells #[.string b.1, .int .u64 b.2] 30) := by
  unfold lessD
  cases h : (a.1.toList != b.1.toList)
  · have h' : (a.1.toList == b.1.toList) = true := by simpa using h
    go_enter Try.func11, Try.ntmps11
    go_wp2
    go_ret
    exact ⟨rfl, rfl⟩
  · have h' : (a.1.toList == b.1.toList) = false := by simpa using h
    go_enter Try.func11, Try.ntmps11
    go_wp2
    go_ret
    exact ⟨rfl, rfl⟩
end Go.Proofs.Qxb6612292a
