import Derived.Test.Qxb6612292aLawB
import Derived.Test.Qxb6612292aLawAP
namespace Go.Proofs.Qxb6612292a
open Go.ChangeShapes Go.WideShapes Go.ChangeAt Go.RowKit
open Go.ChangeMaps (open_string shut_string)
set_option linter.unusedVariables false
set_option linter.unusedSimpArgs false

set_option maxHeartbeats 1000000 in
set_option maxRecDepth 100000 in
theorem earlyB (w : World) (sl : Option Addr) (n cap : Nat) (D : Nat → Dt) (id : ByteArray) (seq : Int) (hn : n ≤ maxLen) (hid : id.size ≤ maxLen) (hR : Rw w sl n D) (h : ¬ (n ≤ 65536 ∧ id.size ≤ 65536)) :
    Calls Try.prog 4 #[.slice sl n cap, .string id, .int .u64 seq] w fun e w' => e = .returned (.bool true) ∧ Below w.heap.size w w' := by
  have HB : Hid (Calls Try.prog 12 #[.slice sl n cap, .string id, .int .u64 seq] w fun e w' => IsB e ∧ w' = w) := bytes12 sl n cap D id (.int .u64 seq) w hn hR
  unfold maxLen at hn hid
  by_cases h0 : 65536 < n
  · have h0' : (65536 : Int) < (n : Int) := by omega
    clear h hR
    go_enter Try.func4, Try.ntmps4
    go_wp2_with (go_at_call 12; refine HB.out.mono ?_; rintro e w' ⟨⟨bb, rfl⟩, hw'⟩; obtain rfl := hw'.symm; clear hw'; cases bb)
    all_goals (go_ret; exact ⟨rfl, Below.refl _ _⟩)
  · have h1' : (65536 : Int) < (id.size : Int) := by omega
    have h0' : (n : Int) ≤ 65536 := by omega
    clear h hR
    go_enter Try.func4, Try.ntmps4
    go_wp2_with (go_at_call 12; refine HB.out.mono ?_; rintro e w' ⟨⟨bb, rfl⟩, hw'⟩; obtain rfl := hw'.symm; clear hw'; cases bb)
    all_goals (go_ret; exact ⟨rfl, Below.refl _ _⟩)

theorem allB (w : World) (sl : Option Addr) (n cap : Nat) (D : Nat → Dt) (id : ByteArray) (seq : Int) (hn : n ≤ maxLen) (hid : id.size ≤ maxLen) (hR : Rw w sl n D) (hnil : sl = none → n = 0) :
    Calls Try.prog 4 #[.slice sl n cap, .string id, .int .u64 seq] w fun e w' => e = .returned (.bool true) ∧ Below w.heap.size w w' := by
  by_cases h : n ≤ 65536 ∧ id.size ≤ 65536
  · exact lawB w sl n cap D id seq h.1 h.2 hR hnil
  · exact earlyB w sl n cap D id seq hn hid hR h

namespace LB
set_option maxRecDepth 100000 in
theorem lifted (os : Os) (started : os.Started) (H : Type) (enc : TypeId × Value → H) :
    ReturnsInHanded {} Try.checked os 4 .any (Rows.fnSearchFindsEveryMemberAtItsPlaceAndInsertsTheRestSpec.pre6 enc Try.prog Try.f4 Rows.fnSearchFindsEveryMemberAtItsPlaceAndInsertsTheRestRow.domain false) (Rows.fnSearchFindsEveryMemberAtItsPlaceAndInsertsTheRestSpec.post enc Try.prog Try.f4 false true false false) := by
  refine returnsInHanded_of_change (C := Try.checked) own started (by kernel_rfl) Try.func4
    (ChangeSpec.witness6 (enc := enc) (C := Try.checked) false ⟨#[], #[.slice none 0 0, .string ByteArray.empty, .int .u64 0], []⟩ 8 (by kernel_rfl) (by kernel_rfl) (by kernel_rfl) (by kernel_rfl)) ?_
  intro W base args ds gs before hval0 hW hcnd _
  have hval : ∀ (j : Nat) t v, Try.f4.params[j]? = some t → args[j]? = some v → Value.okWide Try.prog W .any base t v := hval0
  have hW' := hW
  obtain ⟨p, q, hA0, hV, rfl, hfz, hnd⟩ := hW
  have hA : DataW.TrodAll enc Try.prog W 0 (fun _ => true) true Try.f4.params.toList args.toList ds p := hA0
  rw [Try.params4] at hA hval
  obtain ⟨v0, vs0, d0, ds0, p0, q0, hargs, rfl, rfl, h0, r0⟩ := trodAll_cons hA
  obtain ⟨v1, vs1, d1, ds1, p1, q1, rfl, rfl, rfl, h1, r1⟩ := trodAll_cons r0
  obtain ⟨v2, vs2, d2, ds2, p2, q2, rfl, rfl, rfl, h2, r2⟩ := trodAll_cons r1
  obtain ⟨rfl, rfl, rfl⟩ := trodAll_nil r2
  obtain rfl : args = #[v0, v1, v2] := by cases args; simp_all
  obtain ⟨rfl, rfl⟩ := trodVars_none hV
  have k0 := h0
  have lt0 : ∀ x ∈ p0, x.block < W.heap.size := by obtain ⟨m, hm⟩ := k0; exact DataW.trod_lt m _ _ _ hm
  have k1 := h1
  have lt1 : ∀ x ∈ p1, x.block < W.heap.size := by obtain ⟨m, hm⟩ := k1; exact DataW.trod_lt m _ _ _ hm
  have k2 := h2
  have lt2 : ∀ x ∈ p2, x.block < W.heap.size := by obtain ⟨m, hm⟩ := k2; exact DataW.trod_lt m _ _ _ hm
  obtain ⟨a0, len0, cap0, rfl⟩ := okWide_slice Try.underlying22 (hval 0 22 v0 rfl rfl)
  obtain ⟨D, hl0, hR, hnil⟩ := in_dots h0
  obtain ⟨s1, rfl, _, _, hs1⟩ := open_string Try.underlying9 (hval 1 9 v1 rfl rfl) h1
  obtain ⟨x2, rfl, _, _, wx2⟩ := open_int Try.underlying23 (hval 2 23 v2 rfl rfl) h2
  clear hA0 hval0
  refine (allB W a0 len0 cap0 D s1 x2 hl0 hs1 hR hnil).mono fun e W' ⟨he, bel⟩ => ?_
  subst he
  exact ⟨_, rfl, _, _, _, [], _, [], hW', trodAll_mk1 (shut_bool Try.underlying4 _), (trodAll_cons_mk (Below.trod laidOut (by kernel_rfl) (of_decide_eq_true (by kernel_rfl)) k0 bel lt0) (trodAll_cons_mk (Below.trod laidOut (by kernel_rfl) (of_decide_eq_true (by kernel_rfl)) k1 bel lt1) (trodAll_cons_mk (Below.trod laidOut (by kernel_rfl) (of_decide_eq_true (by kernel_rfl)) k2 bel lt2) trodAll_mk0))), rfl, bel.frame _, fun h => by cases h⟩

theorem over : Rows.fnSearchFindsEveryMemberAtItsPlaceAndInsertsTheRestRow.holds Try.pinned (OpenSpec.ofChange Rows.fnSearchFindsEveryMemberAtItsPlaceAndInsertsTheRestSpec) :=
  OpenClaim.holds_of_wide 4 Try.f4 rfl rfl rfl rfl rfl rfl rfl ⟨rfl, rfl, rfl, rfl, rfl⟩ rfl rfl rfl rfl rfl (by kernel_rfl) Try.func4 (by kernel_rfl)
    (of_decide_eq_true (by kernel_rfl)) (by unfold Func.isWrapper; first | (rw [if_pos (by decide +kernel)]; kernel_rfl) | (rw [if_neg (by decide +kernel)]; exact ⟨rfl, rfl⟩))
    (fun os started H enc _ => lifted os started H enc)

theorem proved : Rows.FnSearchFindsEveryMemberAtItsPlaceAndInsertsTheRestSaid := over
end LB

/-- THE STATEMENT. -/
theorem FnSearchFindsEveryMemberAtItsPlaceAndInsertsTheRest_proved : Rows.FnSearchFindsEveryMemberAtItsPlaceAndInsertsTheRestSaid := LB.proved

end Go.Proofs.Qxb6612292a
