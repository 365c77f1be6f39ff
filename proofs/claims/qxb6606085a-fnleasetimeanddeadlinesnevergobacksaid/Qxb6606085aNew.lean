import Derived.Test.Qxb6606085aGet
import Derived.Test.Qxb6606085aAdv
namespace Go.Proofs.Qxb6606085a
open Go.RowKit Go.Maps
set_option linter.unusedVariables false

set_option maxHeartbeats 400000 in
theorem zzadv_any {w : World} {M B L n : Nat} {x : St} {ttl : Nat → Int} {en : Nat → Bool} (T : TabS w M B L n x ttl en) (a b d bk : Int) :
    Calls Try.prog 8 #[.pointer (some ⟨B, 0, .none⟩), .agg #[.int .u64 a, .int .u64 b, .int .u64 d, .int .u64 bk]] w fun e w' => e = .returned (.tuple #[]) ∧ Upto (Blk B L n) w w' ∧ TabS w' M B L n (adv ttl en x a b d bk) ttl en := by
  have hU : Upto (fun _ => False) w (w.alloc (.cells #[.int .u64 a, .int .u64 b, .int .u64 d, .int .u64 bk] 29)) := (Upto.refl _ w).alloc _
  have T1 := T.calm hU
  go_enter Try.func8, Try.ntmps8
  go_wp2_with (first | (go_at_call 18; refine (advance_any T1 a b d bk).mono ?_; rintro e w' ⟨rfl, hu, hT⟩))
  go_end0
  exact ⟨rfl, (hU.mono (fun _ h => h.elim)).trans hu, hT⟩

set_option maxHeartbeats 400000 in
theorem lastIs_any (w : World) (a b d : Int) :
    Calls Try.prog 10 #[.agg #[.int .u64 a, .int .u64 b, .int .u64 d, .int .u64 0], .int .u64 a, .int .u64 b, .int .u64 d] w fun e w' => e = .returned (.bool true) ∧ w' = w.alloc (.cells #[.int .u64 a, .int .u64 b, .int .u64 d, .int .u64 0] 29) := by
  have e1 : (a == a) = true := by simp
  have e2 : (b == b) = true := by simp
  have e3 : (d == d) = true := by simp
  go_enter Try.func10, Try.ntmps10
  go_wp2
  go_ret
  exact ⟨rfl, rfl⟩

set_option maxHeartbeats 400000 in
theorem bytes13 (w : World) (v0 v1 v2 v3 v7 v8 v9 v10 : Value) (a4 a5 a6 : Option Addr) (l4 l5 l6 c4 c5 c6 : Nat) (h4 : l4 ≤ maxLen) (h5 : l5 ≤ maxLen) (h6 : l6 ≤ maxLen) :
    Calls Try.prog 13 #[v0, v1, v2, v3, .slice a4 l4 c4, .slice a5 l5 c5, .slice a6 l6 c6, v7, v8, v9, v10] w fun e w' => (∃ b, e = .returned (.bool b)) ∧ w' = w := by
  unfold maxLen at h4 h5 h6
  go_enter Try.func13, Try.ntmps13
  go_wp2
  all_goals (go_ret; exact ⟨⟨_, rfl⟩, rfl⟩)

set_option maxHeartbeats 1000000 in
theorem bytes6 (w : World) (v0 v1 v2 v3 : Value) (a4 a5 a6 a7 a8 a9 a10 : Option Addr) (l4 l5 l6 l7 l8 l9 l10 c4 c5 c6 c7 c8 c9 c10 : Nat) (h4 : l4 ≤ maxLen) (h5 : l5 ≤ maxLen) (h6 : l6 ≤ maxLen) (h7 : l7 ≤ maxLen) (h8 : l8 ≤ maxLen) (h9 : l9 ≤ maxLen) (h10 : l10 ≤ maxLen) :
    Calls Try.prog 6 #[v0, v1, v2, v3, .slice a4 l4 c4, .slice a5 l5 c5, .slice a6 l6 c6, .slice a7 l7 c7, .slice a8 l8 c8, .slice a9 l9 c9, .slice a10 l10 c10] w fun e w' => (∃ b, e = .returned (.bool b)) ∧ w' = w := by
  unfold maxLen at h4 h5 h6 h7 h8 h9 h10
  go_enter Try.func6, Try.ntmps6
  go_wp2
  all_goals (go_ret; exact ⟨⟨_, rfl⟩, rfl⟩)

set_option maxHeartbeats 1000000 in
theorem bytes15 (w : World) (v0 v1 v2 v3 : Value) (a4 a5 a6 a7 a8 a9 a10 : Option Addr) (l4 l5 l6 l7 l8 l9 l10 c4 c5 c6 c7 c8 c9 c10 : Nat) (h4 : l4 ≤ maxLen) (h5 : l5 ≤ maxLen) (h6 : l6 ≤ maxLen) (h7 : l7 ≤ maxLen) (h8 : l8 ≤ maxLen) (h9 : l9 ≤ maxLen) (h10 : l10 ≤ maxLen) :
    Calls Try.prog 15 #[v0, v1, v2, v3, .slice a4 l4 c4, .slice a5 l5 c5, .slice a6 l6 c6, .slice a7 l7 c7, .slice a8 l8 c8, .slice a9 l9 c9, .slice a10 l10 c10] w fun e w' => (∃ b, e = .returned (.bool b)) ∧ w' = w := by
  unfold maxLen at h4 h5 h6 h7 h8 h9 h10
  go_enter Try.func15, Try.ntmps15
  go_wp2
  all_goals (go_ret; exact ⟨⟨_, rfl⟩, rfl⟩)

end Go.Proofs.Qxb6606085a
