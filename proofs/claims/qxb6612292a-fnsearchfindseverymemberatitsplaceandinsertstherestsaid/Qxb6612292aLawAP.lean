import Derived.Test.Qxb6612292aLawA
import Derived.ProofKit
import Derived.OpenShut
import Derived.ShutString
import Derived.ChangeOld
import Derived.Below
import Derived.Deep.SlicePairs
namespace Go.Proofs.Qxb6612292a
open Go.ChangeShapes Go.WideShapes Go.ChangeAt Go.RowKit
open Go.ChangeMaps (open_string shut_string)
set_option linter.unusedVariables false
set_option linter.unusedSimpArgs false

theorem own : ownKnob Try.prog.godebug = none := by kernel_rfl
theorem laidOut : laidOutB Try.prog = true := by kernel_rfl

/-- WHAT COMES IN: a slice of dots. -/
theorem in_dots {H : Type} {enc : TypeId × Value → H} {W : World} {a : Option Addr} {len cap : Nat} {d : DataW H} {p : List MemPlace}
    (h : DataW.Trod enc Try.prog W 0 (fun _ => true) true 22 (.slice a len cap) d p) : ∃ D : Nat → Dt, len ≤ maxLen ∧ Rw W a len D ∧ (a = none → len = 0) := by
  obtain ⟨fuel, hf⟩ := h
  rcases Go.Deep.open_slice_pairs Try.underlying22 Try.underlying30 (by kernel_rfl) rfl rfl (by kernel_rfl) (by kernel_rfl) hf with ⟨hcs, _⟩ | ⟨x, l, c, m, k, V0, V1, D0, D1, P0, P1, hcs, _, hl, hm, hmm, _, hcell⟩
  · simp [Value.cells] at hcs
    obtain ⟨rfl, rfl, rfl⟩ := hcs
    exact ⟨fun _ => (ByteArray.empty, 0), by unfold maxLen; omega, fun h0 => by omega, fun _ => rfl⟩
  · simp [Value.cells] at hcs
    obtain ⟨rfl, rfl, rfl⟩ := hcs
    simp only [if_true] at hmm
    have each : ∀ i, i < len → ∃ q : Dt, W.cell? (x.add (i * 2)) = some (.string q.1) ∧ W.cell? (x.add (i * 2 + 1)) = some (.int .u64 q.2) := fun i hi => by
      obtain ⟨g0, g1, g2, g3⟩ := hcell i (by omega)
      obtain ⟨s, e0, _, _⟩ := DataW.trod_string Try.underlying9 g2
      obtain ⟨z, e1, _, _⟩ := DataW.trod_int Try.underlying23 g3
      simp at e0 e1
      exact ⟨(s, z), by rw [g0, e0], by rw [g1, e1]⟩
    have hD : ∃ D : Nat → Dt, ∀ i, i < len → W.cell? (x.add (i * 2)) = some (.string (D i).1) ∧ W.cell? (x.add (i * 2 + 1)) = some (.int .u64 (D i).2) := by
      refine ⟨fun i => if hi : i < len then (each i hi).choose else (ByteArray.empty, 0), fun i hi => ?_⟩
      simp only [hi, dif_pos]
      exact (each i hi).choose_spec
    obtain ⟨D, hD⟩ := hD
    refine ⟨D, by omega, fun h0 => ?_, fun e => by cases e⟩
    obtain ⟨b, off, spot⟩ := x
    have hspot : spot = none := by
      have := (hD 0 h0).1
      simpa [Addr.add] using World.cell?_spot this
    subst hspot
    have h1 : ∀ j v, W.cell? ((⟨b, off, none⟩ : Addr).add j) = some v → W.cell? ⟨b, off + j, none⟩ = some v := fun j v hv => by rw [← Go.WideShapes.add_plain]; exact hv
    refine ⟨b, off, rfl, block_lt_of_cell (h1 _ _ (hD 0 h0).1), fun i hi => ⟨h1 _ _ (hD i hi).1, ?_⟩⟩
    have := h1 _ _ (hD i hi).2
    rw [show off + i * 2 + 1 = off + (i * 2 + 1) from by omega]
    exact this

set_option maxHeartbeats 1000000 in
set_option maxRecDepth 100000 in
theorem earlyA (w : World) (sl : Option Addr) (n cap : Nat) (D : Nat → Dt) (id : ByteArray) (seq : Int) (hn : n ≤ maxLen) (hid : id.size ≤ maxLen) (hR : Rw w sl n D) (h : ¬ (n ≤ 65536 ∧ id.size ≤ 65536)) :
    Calls Try.prog 3 #[.slice sl n cap, .string id, .int .u64 seq] w fun e w' => e = .returned (.bool true) ∧ Below w.heap.size w w' := by
  have HB : Hid (Calls Try.prog 6 #[.slice sl n cap, .string id, .int .u64 seq] w fun e w' => IsB e ∧ w' = w) := bytes6 sl n cap D id (.int .u64 seq) w hn hR
  unfold maxLen at hn hid
  by_cases h0 : 65536 < n
  · have h0' : (65536 : Int) < (n : Int) := by omega
    clear h hR
    go_enter Try.func3, Try.ntmps3
    go_wp2_with (go_at_call 6; refine HB.out.mono ?_; rintro e w' ⟨⟨bb, rfl⟩, hw'⟩; obtain rfl := hw'.symm; clear hw'; cases bb)
    all_goals (go_ret; exact ⟨rfl, Below.refl _ _⟩)
  · have h1' : (65536 : Int) < (id.size : Int) := by omega
    have h0' : (n : Int) ≤ 65536 := by omega
    clear h hR
    go_enter Try.func3, Try.ntmps3
    go_wp2_with (go_at_call 6; refine HB.out.mono ?_; rintro e w' ⟨⟨bb, rfl⟩, hw'⟩; obtain rfl := hw'.symm; clear hw'; cases bb)
    all_goals (go_ret; exact ⟨rfl, Below.refl _ _⟩)

theorem allA (w : World) (sl : Option Addr) (n cap : Nat) (D : Nat → Dt) (id : ByteArray) (seq : Int) (hn : n ≤ maxLen) (hid : id.size ≤ maxLen) (hR : Rw w sl n D) (hnil : sl = none → n = 0) :
    Calls Try.prog 3 #[.slice sl n cap, .string id, .int .u64 seq] w fun e w' => e = .returned (.bool true) ∧ Below w.heap.size w w' := by
  by_cases h : n ≤ 65536 ∧ id.size ≤ 65536
  · exact lawA w sl n cap D id seq h.1 h.2 hR hnil
  · exact earlyA w sl n cap D id seq hn hid hR h

namespace LA
set_option maxRecDepth 100000 in
theorem lifted (os : Os) (started : os.Started) (H : Type) (enc : TypeId × Value → H) :
    ReturnsInHanded {} Try.checked os 3 .any (Rows.fnSearchGivesTheRankAndMembershipSpec.pre6 enc Try.prog Try.f3 Rows.fnSearchGivesTheRankAndMembershipRow.domain false) (Rows.fnSearchGivesTheRankAndMembershipSpec.post enc Try.prog Try.f3 false true false false) := by
  refine returnsInHanded_of_change (C := Try.checked) own started (by kernel_rfl) Try.func3
    (ChangeSpec.witness6 (enc := enc) (C := Try.checked) false ⟨#[], #[.slice none 0 0, .string ByteArray.empty, .int .u64 0], []⟩ 8 (by kernel_rfl) (by kernel_rfl) (by kernel_rfl) (by kernel_rfl)) ?_
  intro W base args ds gs before hval0 hW hcnd _
  have hval : ∀ (j : Nat) t v, Try.f3.params[j]? = some t → args[j]? = some v → Value.okWide Try.prog W .any base t v := hval0
  have hW' := hW
  obtain ⟨p, q, hA0, hV, rfl, hfz, hnd⟩ := hW
  have hA : DataW.TrodAll enc Try.prog W 0 (fun _ => true) true Try.f3.params.toList args.toList ds p := hA0
  rw [Try.params3] at hA hval
  obtain ⟨v0, vs0, d0, ds0, p0, q0, hargs, rfl, rfl, h0, r0⟩ := trodAll_cons hA
  obtain ⟨v1, vs1, d1, ds1, p1, q1, rfl, rfl, rfl, h1, r1⟩ := trodAll_cons r0
  obtain ⟨v2, vs2, d2, ds2, p2, q2, rfl, rfl, rfl, h2, r2⟩ := trodAll_cons r1
  obtain ⟨rfl, rfl, rfl⟩ := trodAll_nil r2
  obtain rfl : args = #[v0, v1, v2] := by cases args; simp_all
  obtain ⟨rfl, rfl⟩ := trodVars_none hV
  have k0 := h0
  have lt0 : ∀ x ∈ p0, x.block < W.heap.size := by obtain ⟨m, hm⟩ := k0; exact DataW.trod_lt m _ _ _ hm
  have k1 := h1
  have lt1 : ∀ x ∈ p1, x.block < W.heap.size := by obtain ⟨m, hm⟩ := k1; exact DataW.trod_lt m _ _ _ hm
  have k2 := h2
  have lt2 : ∀ x ∈ p2, x.block < W.heap.size := by obtain ⟨m, hm⟩ := k2; exact DataW.trod_lt m _ _ _ hm
  obtain ⟨a0, len0, cap0, rfl⟩ := okWide_slice Try.underlying22 (hval 0 22 v0 rfl rfl)
  obtain ⟨D, hl0, hR, hnil⟩ := in_dots h0
  obtain ⟨s1, rfl, _, _, hs1⟩ := open_string Try.underlying9 (hval 1 9 v1 rfl rfl) h1
  obtain ⟨x2, rfl, _, _, wx2⟩ := open_int Try.underlying23 (hval 2 23 v2 rfl rfl) h2
  clear hA0 hval0
  refine (allA W a0 len0 cap0 D s1 x2 hl0 hs1 hR hnil).mono fun e W' ⟨he, bel⟩ => ?_
  subst he
  exact ⟨_, rfl, _, _, _, [], _, [], hW', trodAll_mk1 (shut_bool Try.underlying4 _), (trodAll_cons_mk (Below.trod laidOut (by kernel_rfl) (of_decide_eq_true (by kernel_rfl)) k0 bel lt0) (trodAll_cons_mk (Below.trod laidOut (by kernel_rfl) (of_decide_eq_true (by kernel_rfl)) k1 bel lt1) (trodAll_cons_mk (Below.trod laidOut (by kernel_rfl) (of_decide_eq_true (by kernel_rfl)) k2 bel lt2) trodAll_mk0))), rfl, bel.frame _, fun h => by cases h⟩

theorem over : Rows.fnSearchGivesTheRankAndMembershipRow.holds Try.pinned (OpenSpec.ofChange Rows.fnSearchGivesTheRankAndMembershipSpec) :=
  OpenClaim.holds_of_wide 3 Try.f3 rfl rfl rfl rfl rfl rfl rfl ⟨rfl, rfl, rfl, rfl, rfl⟩ rfl rfl rfl rfl rfl (by kernel_rfl) Try.func3 (by kernel_rfl)
    (of_decide_eq_true (by kernel_rfl)) (by unfold Func.isWrapper; first | (rw [if_pos (by decide +kernel)]; kernel_rfl) | (rw [if_neg (by decide +kernel)]; exact ⟨rfl, rfl⟩))
    (fun os started H enc _ => lifted os started H enc)

theorem proved : Rows.FnSearchGivesTheRankAndMembershipSaid := over
end LA

/-- THE STATEMENT. -/
theorem FnSearchGivesTheRankAndMembership_proved : Rows.FnSearchGivesTheRankAndMembershipSaid := LA.proved

end Go.Proofs.Qxb6612292a
