import Derived.Test.Qxb6609468aLaw
import Derived.WalkKit
import Derived.ProofKit
import Derived.OpenShut
import Derived.ShutString
import Derived.ChangeOld
import Derived.Below
namespace Go.Proofs.Qxb6609468a.fnCountMessageScript
open Go.ChangeShapes Go.WideShapes Go.ChangeAt Go.RowKit
open Go.ChangeMaps (open_string shut_string)
set_option linter.unusedVariables false

theorem own : ownKnob Try.prog.godebug = none := by kernel_rfl
theorem laidOut : laidOutB Try.prog = true := by kernel_rfl

/-- WHAT THE WALK IS TOLD OF A SLICE OF INTEGERS THAT CAME IN: it is nil; or it leads to a row of 'cap' cells, the numbers 'zs' (the first 'len' are its elements, the rest its spare room), each fitting its kind. -/
def IsRow (k : IntKind) (w : World) (a : Option Addr) (len cap : Nat) (zs : List Int) : Prop :=
  (a = none ∧ len = 0 ∧ cap = 0 ∧ zs = []) ∨
  ∃ x, a = some x ∧ len ≤ cap ∧ cap ≤ maxLen ∧ zs.length = cap ∧ (∀ i, i < zs.length → w.cell? (x.add i) = some (.int k (zs.getD i 0))) ∧ ∀ n ∈ zs, (Lit.int k n).wf = true

set_option maxHeartbeats 1000000 in
set_option maxRecDepth 100000 in
theorem early (w : World) (a0 a1 : Option Addr) (l0 l1 c0 c1 : Nat) (m0 : l0 ≤ maxLen) (m1 : l1 ≤ maxLen) (h : ¬ (l0 ≤ 65536 ∧ l1 ≤ 65536)) :
    Calls Try.prog 3 #[.slice a0 l0 c0, .slice a1 l1 c1] w fun e w' => e = .returned (.bool true) ∧ Below w.heap.size w w' := by
  have HB : Hid (Calls Try.prog 4 #[.slice a0 l0 c0, .slice a1 l1 c1] w fun e w' => (∃ b, e = .returned (.bool b)) ∧ w' = w) := bytes_any w a0 a1 l0 l1 c0 c1 m0 m1
  unfold maxLen at m0 m1
  by_cases h0 : 65536 < l0
  · have h0' : (65536 : Int) < (l0 : Int) := by omega
    clear h
    go_enter Try.func3, Try.ntmps3
    go_wp2_with (go_at_call 4; refine HB.out.mono ?_; rintro e w' ⟨⟨bb, rfl⟩, hw'⟩; obtain rfl := hw'.symm; clear hw'; cases bb)
    all_goals (go_ret; exact ⟨rfl, Below.refl _ _⟩)
  · have h1' : (65536 : Int) < (l1 : Int) := by omega
    have h0' : (l0 : Int) ≤ 65536 := by omega
    clear h
    go_enter Try.func3, Try.ntmps3
    go_wp2_with (go_at_call 4; refine HB.out.mono ?_; rintro e w' ⟨⟨bb, rfl⟩, hw'⟩; obtain rfl := hw'.symm; clear hw'; cases bb)
    all_goals (go_ret; exact ⟨rfl, Below.refl _ _⟩)

theorem row_at {k : IntKind} {w : World} {a : Option Addr} {len cap n : Nat} {zs : List Int} (h : IsRow k w a len cap zs) (hn : n ≤ len) (h0 : 0 < n) :
    ∃ b o, a = some ⟨b, o, none⟩ ∧ b < w.heap.size ∧ ∀ i, i < n → w.cell? ⟨b, o + i, none⟩ = some (.int k (zs.getD i 0)) := by
  rcases h with ⟨_, h1, _⟩ | ⟨x, rfl, hl, hm, hz, hc, hw⟩
  · omega
  · obtain ⟨b, off, rfl, hc'⟩ := ints_at hc (by omega)
    exact ⟨b, off, rfl, block_lt_of_cell (hc' 0 (by omega)), fun i hi => hc' i (by omega)⟩

theorem row_len {k : IntKind} {w : World} {a : Option Addr} {len cap : Nat} {zs : List Int} (h : IsRow k w a len cap zs) : len ≤ maxLen := by
  rcases h with ⟨_, h1, _⟩ | ⟨x, rfl, hl, hm, hz, hc, hw⟩
  · rw [h1]; exact Nat.zero_le _
  · omega

theorem row_u8 {w : World} {a : Option Addr} {len cap : Nat} {zs : List Int} (h : IsRow .u8 w a len cap zs) (i : Nat) : ∃ t : Nat, t < 256 ∧ zs.getD i 0 = (t : Int) := by
  by_cases hi : i < zs.length
  · rcases h with ⟨_, _, _, h1⟩ | ⟨x, rfl, hl, hm, hz, hc, hw⟩
    · rw [h1] at hi; simp at hi
    · have hb := bounds_u8 (hw (zs.getD i 0) (by simp [List.getElem?_eq_getElem hi]))
      exact ⟨(zs.getD i 0).toNat, by omega, by omega⟩
  · exact ⟨0, by omega, by simp [List.getElem?_eq_none (Nat.le_of_not_lt hi)]⟩

/-! ### STEP 1: THE WALK -/
theorem walk (a0 : Option Addr) (len0 cap0 : Nat) (z0 : List Int) (a1 : Option Addr) (len1 cap1 : Nat) (z1 : List Int) (w : World) (w0 : IsRow .u8 w a0 len0 cap0 z0) (w1 : IsRow .i64 w a1 len1 cap1 z1) :
    Calls Try.prog 3 #[.slice a0 len0 cap0, .slice a1 len1 cap1] w fun e w' => e = .returned (.bool true) ∧ Below w.heap.size w w' := by
  by_cases h : len0 ≤ 65536 ∧ len1 ≤ 65536
  · have hty : ∀ i, ((z0.getD i 0).toNat : Int) = z0.getD i 0 ∧ (z0.getD i 0).toNat < 256 := fun i => by
      obtain ⟨t, ht, e⟩ := row_u8 w0 i
      rw [e]; exact ⟨by omega, by omega⟩
    refine law w a0 a1 len0 len1 cap0 cap1 _ (fun i => (z0.getD i 0).toNat) (fun i => z1.getD i 0) rfl h.1 h.2 ⟨fun hp => ?_, fun i _ => (hty i).2⟩
    obtain ⟨b0, o0, e0, g0, k0⟩ := row_at w0 (n := if len1 < len0 then len1 else len0) (by split <;> omega) hp
    obtain ⟨b1, o1, e1, g1, k1⟩ := row_at w1 (n := if len1 < len0 then len1 else len0) (by split <;> omega) hp
    exact ⟨b0, o0, b1, o1, e0, e1, g0, g1, fun i hi => by rw [(hty i).1]; exact k0 i hi, k1⟩
  · exact early w a0 a1 len0 len1 cap0 cap1 (row_len w0) (row_len w1) h

/-! ### THE ROW's STEP: WRITTEN OUT: LEAVE IT -/
set_option maxRecDepth 100000 in
theorem lifted (os : Os) (started : os.Started) (H : Type) (enc : TypeId × Value → H) :
    ReturnsInHanded {} Try.checked os 3 .any (Rows.fnCountMessageScriptSpec.pre6 enc Try.prog Try.f3 Rows.fnCountMessageScriptRow.domain false) (Rows.fnCountMessageScriptSpec.post enc Try.prog Try.f3 false true false false) := by
  refine returnsInHanded_of_change (C := Try.checked) own started (by kernel_rfl) Try.func3
    (ChangeSpec.witness6 (enc := enc) (C := Try.checked) false ⟨#[], #[.slice none 0 0, .slice none 0 0], []⟩ 8 (by kernel_rfl) (by kernel_rfl) (by kernel_rfl) (by kernel_rfl)) ?_
  intro W base args ds gs before hval0 hW hcnd _
  have hval : ∀ (j : Nat) t v, Try.f3.params[j]? = some t → args[j]? = some v → Value.okWide Try.prog W .any base t v := hval0
  have hW' := hW
  obtain ⟨p, q, hA0, hV, rfl, hfz, hnd⟩ := hW
  have hA : DataW.TrodAll enc Try.prog W 0 (fun _ => true) true Try.f3.params.toList args.toList ds p := hA0
  rw [Try.params3] at hA hval
  obtain ⟨v0, vs0, d0, ds0, p0, q0, hargs, rfl, rfl, h0, r0⟩ := trodAll_cons hA
  obtain ⟨v1, vs1, d1, ds1, p1, q1, rfl, rfl, rfl, h1, r1⟩ := trodAll_cons r0
  obtain ⟨rfl, rfl, rfl⟩ := trodAll_nil r1
  obtain rfl : args = #[v0, v1] := by cases args; simp_all
  obtain ⟨rfl, rfl⟩ := trodVars_none hV
  obtain ⟨a0, len0, cap0, rfl⟩ := okWide_slice Try.underlying22 (hval 0 22 v0 rfl rfl)
  have k0 := h0
  have lt0 : ∀ x ∈ p0, x.block < W.heap.size := by obtain ⟨m, hm⟩ := k0; exact DataW.trod_lt m _ _ _ hm
  obtain ⟨z0, w0⟩ : ∃ zs, IsRow .u8 W a0 len0 cap0 zs := by
    obtain ⟨fuel, hf⟩ := h0
    rcases open_ints Try.underlying22 Try.underlying5 (by kernel_rfl) hf with ⟨hcs, _⟩ | ⟨x, l, c, zs, hcs, _, hl, hm, hz, _, hcell, hwz⟩
    · simp [Value.cells] at hcs
      obtain ⟨rfl, rfl, rfl⟩ := hcs
      exact ⟨[], .inl ⟨rfl, rfl, rfl, rfl⟩⟩
    · simp [Value.cells] at hcs
      obtain ⟨rfl, rfl, rfl⟩ := hcs
      exact ⟨zs, .inr ⟨_, rfl, hl, hm, by simpa using hz, hcell, hwz⟩⟩
  obtain ⟨a1, len1, cap1, rfl⟩ := okWide_slice Try.underlying23 (hval 1 23 v1 rfl rfl)
  have k1 := h1
  have lt1 : ∀ x ∈ p1, x.block < W.heap.size := by obtain ⟨m, hm⟩ := k1; exact DataW.trod_lt m _ _ _ hm
  obtain ⟨z1, w1⟩ : ∃ zs, IsRow .i64 W a1 len1 cap1 zs := by
    obtain ⟨fuel, hf⟩ := h1
    rcases open_ints Try.underlying23 Try.underlying3 (by kernel_rfl) hf with ⟨hcs, _⟩ | ⟨x, l, c, zs, hcs, _, hl, hm, hz, _, hcell, hwz⟩
    · simp [Value.cells] at hcs
      obtain ⟨rfl, rfl, rfl⟩ := hcs
      exact ⟨[], .inl ⟨rfl, rfl, rfl, rfl⟩⟩
    · simp [Value.cells] at hcs
      obtain ⟨rfl, rfl, rfl⟩ := hcs
      exact ⟨zs, .inr ⟨_, rfl, hl, hm, by simpa using hz, hcell, hwz⟩⟩
  clear hA0 hval0
  refine (walk a0 len0 cap0 z0 a1 len1 cap1 z1 W w0 w1).mono fun e W' ⟨he, bel⟩ => ?_
  subst he
  exact ⟨_, rfl, _, _, _, [], _, [], hW', trodAll_mk1 (shut_bool Try.underlying4 _), (trodAll_cons_mk (Below.trod laidOut (by kernel_rfl) (of_decide_eq_true (by kernel_rfl)) k0 bel lt0) (trodAll_cons_mk (Below.trod laidOut (by kernel_rfl) (of_decide_eq_true (by kernel_rfl)) k1 bel lt1) trodAll_mk0)), rfl, bel.frame _, fun h => by cases h⟩

theorem over : Rows.fnCountMessageScriptRow.holds Try.pinned (OpenSpec.ofChange Rows.fnCountMessageScriptSpec) :=
  OpenClaim.holds_of_wide 3 Try.f3 rfl rfl rfl rfl rfl rfl rfl ⟨rfl, rfl, rfl, rfl, rfl⟩ rfl rfl rfl rfl rfl (by kernel_rfl) Try.func3 (by kernel_rfl)
    (of_decide_eq_true (by kernel_rfl)) (by unfold Func.isWrapper; first | (rw [if_pos (by decide +kernel)]; kernel_rfl) | (rw [if_neg (by decide +kernel)]; exact ⟨rfl, rfl⟩))
    (fun os started H enc _ => lifted os started H enc)

theorem proved : Rows.FnCountMessageScriptSaid := over
end Go.Proofs.Qxb6609468a.fnCountMessageScript

namespace Go.Proofs.Qxb6609468a
/-- THE STATEMENT. -/
theorem FnCountMessageScript_proved : Rows.FnCountMessageScriptSaid := fnCountMessageScript.proved
end Go.Proofs.Qxb6609468a
