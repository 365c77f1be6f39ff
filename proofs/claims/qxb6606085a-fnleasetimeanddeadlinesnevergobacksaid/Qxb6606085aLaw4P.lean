import Derived.Test.Qxb6606085aLaw4
import Derived.ProofKit
import Derived.OpenShut
import Derived.ShutString
import Derived.ChangeOld
import Derived.Below
import Derived.Deep.Grids
namespace Go.Proofs.Qxb6606085a
open Go.ChangeShapes Go.WideShapes Go.ChangeAt Go.RowKit
open Go.ChangeMaps (open_string shut_string)
set_option linter.unusedVariables false

set_option maxHeartbeats 1000000 in
set_option maxRecDepth 100000 in
theorem early4 (w : World) (v0 v1 v2 v3 v7 v8 v9 v10 : Value) (l1 l2 l3 c1 c2 c3 : Nat) (s1 s2 s3 : Option Addr)
    (m1 : l1 ≤ maxLen) (m2 : l2 ≤ maxLen) (m3 : l3 ≤ maxLen) (h : ¬ (l1 ≤ 32768 ∧ l2 = l1 ∧ l3 = l1)) :
    Calls Try.prog 4 #[v0, v1, v2, v3, .slice s1 l1 c1, .slice s2 l2 c2, .slice s3 l3 c3, v7, v8, v9, v10] w fun e w' => e = .returned (.bool true) ∧ Below w.heap.size w w' := by
  have n1 := fun (w : World) a n c => run_neq_slice_nil_any (P := Try.prog) w 23 22 a n c 0 0 Try.underlying23
  have HH : Hid (¬ (l1 ≤ 32768 ∧ l2 = l1 ∧ l3 = l1)) := h
  have b13 := bytes13 w v0 v1 v2 v3 v7 v8 v9 v10 s1 s2 s3 l1 l2 l3 c1 c2 c3 m1 m2 m3
  have HB : Hid (Calls Try.prog 13 #[v0, v1, v2, v3, .slice s1 l1 c1, .slice s2 l2 c2, .slice s3 l3 c3, v7, v8, v9, v10] w fun e w' => (∃ b, e = .returned (.bool b)) ∧ w' = w) := b13
  clear b13 h
  unfold maxLen at m1 m2 m3
  go_enter Try.func4, Try.ntmps4
  go_upto_if 71 with (go_at_call 13; refine (HB.out).mono ?_; rintro e w' ⟨⟨bb, rfl⟩, hw'⟩; obtain rfl := hw'.symm; clear hw'; cases bb)
  all_goals first
    | (go_ret; exact ⟨rfl, Below.refl _ _⟩)
    | (exfalso
       refine HH.out ⟨by omega, by omega, ?_⟩
       have h9 : ((l3 : Int) != (l1 : Int)) = false := by assumption
       simp at h9
       omega)

theorem own : ownKnob Try.prog.godebug = none := by kernel_rfl
theorem laidOut : laidOutB Try.prog = true := by kernel_rfl

/-- A slice of uint64 that came in. -/
def InI (W : World) (a : Option Addr) (len : Nat) (f : Nat → Int) : Prop := len ≤ maxLen ∧ In W a len (fun i => .int .u64 (f i)) ∧ ∀ i, i < len → (Lit.int .u64 (f i)).wf = true
def InB (W : World) (a : Option Addr) (len : Nat) (f : Nat → Bool) : Prop := len ≤ maxLen ∧ In W a len (fun i => .bool (f i))

theorem in_ints {H : Type} {enc : TypeId × Value → H} {W : World} {a : Option Addr} {len cap : Nat} {d : DataW H} {p : List MemPlace}
    (h : DataW.Trod enc Try.prog W 0 (fun _ => true) true 23 (.slice a len cap) d p) : ∃ f, InI W a len f := by
  obtain ⟨fuel, hf⟩ := h
  rcases open_ints Try.underlying23 Try.underlying22 (by kernel_rfl) hf with ⟨hcs, _⟩ | ⟨x, l, c, zs, hcs, _, hl, hm, hz, _, hcell, hwz⟩
  · simp [Value.cells] at hcs
    obtain ⟨rfl, rfl, rfl⟩ := hcs
    exact ⟨fun _ => 0, by unfold maxLen; omega, fun h0 => by omega, fun i hi => by omega⟩
  · simp [Value.cells] at hcs
    obtain ⟨rfl, rfl, rfl⟩ := hcs
    have hzl : zs.length = cap := by simpa using hz
    refine ⟨fun i => zs.getD i 0, by omega, fun h0 => ⟨x, rfl, fun i hi => hcell i (by omega)⟩, fun i hi => hwz _ ?_⟩
    have : i < zs.length := by omega
    simp [List.getElem?_eq_getElem this]

theorem in_bools {H : Type} {enc : TypeId × Value → H} {W : World} {a : Option Addr} {len cap : Nat} {d : DataW H} {p : List MemPlace}
    (h : DataW.Trod enc Try.prog W 0 (fun _ => true) true 24 (.slice a len cap) d p) : ∃ f, InB W a len f := by
  obtain ⟨fuel, hf⟩ := h
  rcases Go.Deep.open_bools Try.underlying24 Try.underlying4 (by kernel_rfl) hf with ⟨hcs, _⟩ | ⟨x, l, c, B, hcs, _, hl, hm, _, hcell⟩
  · simp [Value.cells] at hcs
    obtain ⟨rfl, rfl, rfl⟩ := hcs
    exact ⟨fun _ => false, by unfold maxLen; omega, fun h0 => by omega⟩
  · simp [Value.cells] at hcs
    obtain ⟨rfl, rfl, rfl⟩ := hcs
    exact ⟨B, by omega, fun h0 => ⟨x, rfl, fun i hi => hcell i (by omega)⟩⟩

theorem all4 (w : World) (c t s wl a b d bk : Int) (l1 l2 l3 c1 c2 c3 : Nat) (s1 s2 s3 : Option Addr) (ttl dl : Nat → Int) (en : Nat → Bool) (h1 : InI w s1 l1 ttl) (h2 : InI w s2 l2 dl) (h3 : InB w s3 l3 en) :
    Calls Try.prog 4 #[.int .u64 c, .int .u64 t, .int .u64 s, .int .u64 wl, .slice s1 l1 c1, .slice s2 l2 c2, .slice s3 l3 c3, .int .u64 a, .int .u64 b, .int .u64 d, .int .u64 bk] w fun e w' => e = .returned (.bool true) ∧ Below w.heap.size w w' := by
  by_cases h : l1 ≤ 32768 ∧ l2 = l1 ∧ l3 = l1
  · obtain ⟨hl, rfl, rfl⟩ := h
    exact law4 w c t s wl a b d bk _ c1 c2 c3 s1 s2 s3 ttl dl en h1.2.1 h2.2.1 h3.2 hl
  · exact early4 w _ _ _ _ _ _ _ _ l1 l2 l3 c1 c2 c3 s1 s2 s3 h1.1 h2.1 h3.1 h

namespace L4
set_option maxRecDepth 100000 in
theorem lifted (os : Os) (started : os.Started) (H : Type) (enc : TypeId × Value → H) :
    ReturnsInHanded {} Try.checked os 4 .any (Rows.fnLeaseAdvanceTwiceIsOnceSpec.pre6 enc Try.prog Try.f4 Rows.fnLeaseAdvanceTwiceIsOnceRow.domain false) (Rows.fnLeaseAdvanceTwiceIsOnceSpec.post enc Try.prog Try.f4 false true false false) := by
  refine returnsInHanded_of_change (C := Try.checked) own started (by kernel_rfl) Try.func4
    (ChangeSpec.witness6 (enc := enc) (C := Try.checked) false ⟨#[], #[.int .u64 0, .int .u64 0, .int .u64 0, .int .u64 0, .slice none 0 0, .slice none 0 0, .slice none 0 0, .int .u64 0, .int .u64 0, .int .u64 0, .int .u64 0], []⟩ 8 (by kernel_rfl) (by kernel_rfl) (by kernel_rfl) (by kernel_rfl)) ?_
  intro W base args ds gs before hval0 hW hcnd _
  have hval : ∀ (j : Nat) t v, Try.f4.params[j]? = some t → args[j]? = some v → Value.okWide Try.prog W .any base t v := hval0
  have hW' := hW
  obtain ⟨p, q, hA0, hV, rfl, hfz, hnd⟩ := hW
  have hA : DataW.TrodAll enc Try.prog W 0 (fun _ => true) true Try.f4.params.toList args.toList ds p := hA0
  rw [Try.params4] at hA hval
  obtain ⟨v0, vs0, d0, ds0, p0, q0, hargs, rfl, rfl, h0, r0⟩ := trodAll_cons hA
  obtain ⟨v1, vs1, d1, ds1, p1, q1, rfl, rfl, rfl, h1, r1⟩ := trodAll_cons r0
  obtain ⟨v2, vs2, d2, ds2, p2, q2, rfl, rfl, rfl, h2, r2⟩ := trodAll_cons r1
  obtain ⟨v3, vs3, d3, ds3, p3, q3, rfl, rfl, rfl, h3, r3⟩ := trodAll_cons r2
  obtain ⟨v4, vs4, d4, ds4, p4, q4, rfl, rfl, rfl, h4, r4⟩ := trodAll_cons r3
  obtain ⟨v5, vs5, d5, ds5, p5, q5, rfl, rfl, rfl, h5, r5⟩ := trodAll_cons r4
  obtain ⟨v6, vs6, d6, ds6, p6, q6, rfl, rfl, rfl, h6, r6⟩ := trodAll_cons r5
  obtain ⟨v7, vs7, d7, ds7, p7, q7, rfl, rfl, rfl, h7, r7⟩ := trodAll_cons r6
  obtain ⟨v8, vs8, d8, ds8, p8, q8, rfl, rfl, rfl, h8, r8⟩ := trodAll_cons r7
  obtain ⟨v9, vs9, d9, ds9, p9, q9, rfl, rfl, rfl, h9, r9⟩ := trodAll_cons r8
  obtain ⟨v10, vs10, d10, ds10, p10, q10, rfl, rfl, rfl, h10, r10⟩ := trodAll_cons r9
  obtain ⟨rfl, rfl, rfl⟩ := trodAll_nil r10
  obtain rfl : args = #[v0, v1, v2, v3, v4, v5, v6, v7, v8, v9, v10] := by cases args; simp_all
  obtain ⟨rfl, rfl⟩ := trodVars_none hV
  have k0 := h0
  have lt0 : ∀ x ∈ p0, x.block < W.heap.size := by obtain ⟨m, hm⟩ := k0; exact DataW.trod_lt m _ _ _ hm
  obtain ⟨x0, rfl, _, _, wx0⟩ := open_int Try.underlying22 (hval 0 22 v0 rfl rfl) h0
  have k1 := h1
  have lt1 : ∀ x ∈ p1, x.block < W.heap.size := by obtain ⟨m, hm⟩ := k1; exact DataW.trod_lt m _ _ _ hm
  obtain ⟨x1, rfl, _, _, wx1⟩ := open_int Try.underlying22 (hval 1 22 v1 rfl rfl) h1
  have k2 := h2
  have lt2 : ∀ x ∈ p2, x.block < W.heap.size := by obtain ⟨m, hm⟩ := k2; exact DataW.trod_lt m _ _ _ hm
  obtain ⟨x2, rfl, _, _, wx2⟩ := open_int Try.underlying22 (hval 2 22 v2 rfl rfl) h2
  have k3 := h3
  have lt3 : ∀ x ∈ p3, x.block < W.heap.size := by obtain ⟨m, hm⟩ := k3; exact DataW.trod_lt m _ _ _ hm
  obtain ⟨x3, rfl, _, _, wx3⟩ := open_int Try.underlying22 (hval 3 22 v3 rfl rfl) h3
  have k4 := h4
  have lt4 : ∀ x ∈ p4, x.block < W.heap.size := by obtain ⟨m, hm⟩ := k4; exact DataW.trod_lt m _ _ _ hm
  obtain ⟨a4, len4, cap4, rfl⟩ := okWide_slice Try.underlying23 (hval 4 23 v4 rfl rfl)
  obtain ⟨z4, w4⟩ : ∃ f, InI W a4 len4 f := in_ints h4
  have k5 := h5
  have lt5 : ∀ x ∈ p5, x.block < W.heap.size := by obtain ⟨m, hm⟩ := k5; exact DataW.trod_lt m _ _ _ hm
  obtain ⟨a5, len5, cap5, rfl⟩ := okWide_slice Try.underlying23 (hval 5 23 v5 rfl rfl)
  obtain ⟨z5, w5⟩ : ∃ f, InI W a5 len5 f := in_ints h5
  have k6 := h6
  have lt6 : ∀ x ∈ p6, x.block < W.heap.size := by obtain ⟨m, hm⟩ := k6; exact DataW.trod_lt m _ _ _ hm
  obtain ⟨a6, len6, cap6, rfl⟩ := okWide_slice Try.underlying24 (hval 6 24 v6 rfl rfl)
  obtain ⟨z6, w6⟩ : ∃ f, InB W a6 len6 f := in_bools h6
  have k7 := h7
  have lt7 : ∀ x ∈ p7, x.block < W.heap.size := by obtain ⟨m, hm⟩ := k7; exact DataW.trod_lt m _ _ _ hm
  obtain ⟨x7, rfl, _, _, wx7⟩ := open_int Try.underlying22 (hval 7 22 v7 rfl rfl) h7
  have k8 := h8
  have lt8 : ∀ x ∈ p8, x.block < W.heap.size := by obtain ⟨m, hm⟩ := k8; exact DataW.trod_lt m _ _ _ hm
  obtain ⟨x8, rfl, _, _, wx8⟩ := open_int Try.underlying22 (hval 8 22 v8 rfl rfl) h8
  have k9 := h9
  have lt9 : ∀ x ∈ p9, x.block < W.heap.size := by obtain ⟨m, hm⟩ := k9; exact DataW.trod_lt m _ _ _ hm
  obtain ⟨x9, rfl, _, _, wx9⟩ := open_int Try.underlying22 (hval 9 22 v9 rfl rfl) h9
  have k10 := h10
  have lt10 : ∀ x ∈ p10, x.block < W.heap.size := by obtain ⟨m, hm⟩ := k10; exact DataW.trod_lt m _ _ _ hm
  obtain ⟨x10, rfl, _, _, wx10⟩ := open_int Try.underlying22 (hval 10 22 v10 rfl rfl) h10
  clear hA0 hval0
  refine (all4 W x0 x1 x2 x3 x7 x8 x9 x10 len4 len5 len6 cap4 cap5 cap6 a4 a5 a6 z4 z5 z6 w4 w5 w6).mono fun e W' ⟨he, bel⟩ => ?_
  subst he
  exact ⟨_, rfl, _, _, _, [], _, [], hW', trodAll_mk1 (shut_bool Try.underlying4 _), (trodAll_cons_mk (Below.trod laidOut (by kernel_rfl) (of_decide_eq_true (by kernel_rfl)) k0 bel lt0) (trodAll_cons_mk (Below.trod laidOut (by kernel_rfl) (of_decide_eq_true (by kernel_rfl)) k1 bel lt1) (trodAll_cons_mk (Below.trod laidOut (by kernel_rfl) (of_decide_eq_true (by kernel_rfl)) k2 bel lt2) (trodAll_cons_mk (Below.trod laidOut (by kernel_rfl) (of_decide_eq_true (by kernel_rfl)) k3 bel lt3) (trodAll_cons_mk (Below.trod laidOut (by kernel_rfl) (of_decide_eq_true (by kernel_rfl)) k4 bel lt4) (trodAll_cons_mk (Below.trod laidOut (by kernel_rfl) (of_decide_eq_true (by kernel_rfl)) k5 bel lt5) (trodAll_cons_mk (Below.trod laidOut (by kernel_rfl) (of_decide_eq_true (by kernel_rfl)) k6 bel lt6) (trodAll_cons_mk (Below.trod laidOut (by kernel_rfl) (of_decide_eq_true (by kernel_rfl)) k7 bel lt7) (trodAll_cons_mk (Below.trod laidOut (by kernel_rfl) (of_decide_eq_true (by kernel_rfl)) k8 bel lt8) (trodAll_cons_mk (Below.trod laidOut (by kernel_rfl) (of_decide_eq_true (by kernel_rfl)) k9 bel lt9) (trodAll_cons_mk (Below.trod laidOut (by kernel_rfl) (of_decide_eq_true (by kernel_rfl)) k10 bel lt10) trodAll_mk0))))))))))), rfl, bel.frame _, fun h => by cases h⟩

theorem over : Rows.fnLeaseAdvanceTwiceIsOnceRow.holds Try.pinned (OpenSpec.ofChange Rows.fnLeaseAdvanceTwiceIsOnceSpec) :=
  OpenClaim.holds_of_wide 4 Try.f4 rfl rfl rfl rfl rfl rfl rfl ⟨rfl, rfl, rfl, rfl, rfl⟩ rfl rfl rfl rfl rfl (by kernel_rfl) Try.func4 (by kernel_rfl)
    (of_decide_eq_true (by kernel_rfl)) (by unfold Func.isWrapper; first | (rw [if_pos (by decide +kernel)]; kernel_rfl) | (rw [if_neg (by decide +kernel)]; exact ⟨rfl, rfl⟩))
    (fun os started H enc _ => lifted os started H enc)

theorem proved : Rows.FnLeaseAdvanceTwiceIsOnceSaid := over
end L4

/-- THE STATEMENT. -/
theorem FnLeaseAdvanceTwiceIsOnce_proved : Rows.FnLeaseAdvanceTwiceIsOnceSaid := L4.proved

end Go.Proofs.Qxb6606085a
