import Derived.Test.Qxb6606085aLaw5
import Derived.Test.Qxb6606085aLaw4P
namespace Go.Proofs.Qxb6606085a
open Go.ChangeShapes Go.WideShapes Go.ChangeAt Go.RowKit
open Go.ChangeMaps (open_string shut_string)
set_option linter.unusedVariables false

set_option maxHeartbeats 4000000 in
set_option maxRecDepth 100000 in
theorem early5 (w : World) (c : Int) (v1 v2 v3 : Value) (l1 l2 l3 l7 l8 l9 l10 c1 c2 c3 c7 c8 c9 c10 : Nat) (s1 s2 s3 s7 s8 s9 s10 : Option Addr)
    (m1 : l1 ≤ maxLen) (m2 : l2 ≤ maxLen) (m3 : l3 ≤ maxLen) (m7 : l7 ≤ maxLen) (m8 : l8 ≤ maxLen) (m9 : l9 ≤ maxLen) (m10 : l10 ≤ maxLen) (h : ¬ (l1 ≤ 4096 ∧ l2 = l1 ∧ l3 = l1 ∧ l7 ≤ 4096 ∧ l8 = l7 ∧ l9 = l7 ∧ l10 = l7 ∧ c ≤ 4611686018427387904)) :
    Calls Try.prog 5 #[.int .u64 c, v1, v2, v3, .slice s1 l1 c1, .slice s2 l2 c2, .slice s3 l3 c3, .slice s7 l7 c7, .slice s8 l8 c8, .slice s9 l9 c9, .slice s10 l10 c10] w fun e w' => e = .returned (.bool true) ∧ Below w.heap.size w w' := by
  have n1 := fun (w : World) a n c => run_neq_slice_nil_any (P := Try.prog) w 23 22 a n c 0 0 Try.underlying23
  have HH : Hid (¬ (l1 ≤ 4096 ∧ l2 = l1 ∧ l3 = l1 ∧ l7 ≤ 4096 ∧ l8 = l7 ∧ l9 = l7 ∧ l10 = l7 ∧ c ≤ 4611686018427387904)) := h
  have b13 := bytes15 w (.int .u64 c) v1 v2 v3 s1 s2 s3 s7 s8 s9 s10 l1 l2 l3 l7 l8 l9 l10 c1 c2 c3 c7 c8 c9 c10 m1 m2 m3 m7 m8 m9 m10
  have HB : Hid (Calls Try.prog 15 #[.int .u64 c, v1, v2, v3, .slice s1 l1 c1, .slice s2 l2 c2, .slice s3 l3 c3, .slice s7 l7 c7, .slice s8 l8 c8, .slice s9 l9 c9, .slice s10 l10 c10] w fun e w' => (∃ b, e = .returned (.bool b)) ∧ w' = w) := b13
  clear b13 h
  unfold maxLen at m1 m2 m3 m7 m8 m9 m10
  go_enter Try.func5, Try.ntmps5
  go_upto_if 115 with (go_at_call 15; refine HB.out.mono ?_; rintro e w' ⟨⟨bb, rfl⟩, hw'⟩; obtain rfl := hw'.symm; clear hw'; cases bb)
  all_goals first
    | (go_ret; exact ⟨rfl, Below.refl _ _⟩)
    | (exfalso
       have g2 : l2 = l1 := by first | omega | (have h9 : ((l2 : Int) != (l1 : Int)) = false := (by assumption); simp at h9; omega)
       have g3 : l3 = l1 := by first | omega | (have h9 : ((l3 : Int) != (l1 : Int)) = false := (by assumption); simp at h9; omega)
       have g8 : l8 = l7 := by first | omega | (have h9 : ((l8 : Int) != (l7 : Int)) = false := (by assumption); simp at h9; omega)
       have g9 : l9 = l7 := by first | omega | (have h9 : ((l9 : Int) != (l7 : Int)) = false := (by assumption); simp at h9; omega)
       have g10 : l10 = l7 := by first | omega | (have h9 : ((l10 : Int) != (l7 : Int)) = false := (by assumption); simp at h9; omega)
       exact HH.out ⟨by omega, g2, g3, by omega, g8, g9, g10, by omega⟩)

theorem all5 (w : World) (c t s wl : Int) (hc : (Lit.int .u64 c).wf = true) (hs : (Lit.int .u64 s).wf = true) (hw : (Lit.int .u64 wl).wf = true) (l1 l2 l3 l7 l8 l9 l10 c1 c2 c3 c7 c8 c9 c10 : Nat) (s1 s2 s3 s7 s8 s9 s10 : Option Addr) (ttl dl : Nat → Int) (en : Nat → Bool) (tm sn wa ba : Nat → Int)
    (h1 : InI w s1 l1 ttl) (h2 : InI w s2 l2 dl) (h3 : InB w s3 l3 en) (h7 : InI w s7 l7 tm) (h8 : InI w s8 l8 sn) (h9 : InI w s9 l9 wa) (h10 : InI w s10 l10 ba) :
    Calls Try.prog 5 #[.int .u64 c, .int .u64 t, .int .u64 s, .int .u64 wl, .slice s1 l1 c1, .slice s2 l2 c2, .slice s3 l3 c3, .slice s7 l7 c7, .slice s8 l8 c8, .slice s9 l9 c9, .slice s10 l10 c10] w fun e w' => e = .returned (.bool true) ∧ Below w.heap.size w w' := by
  by_cases h : l1 ≤ 4096 ∧ l2 = l1 ∧ l3 = l1 ∧ l7 ≤ 4096 ∧ l8 = l7 ∧ l9 = l7 ∧ l10 = l7 ∧ c ≤ 4611686018427387904
  · obtain ⟨hl, rfl, rfl, hm, rfl, rfl, rfl, hcl⟩ := h
    exact law5 w c t s wl _ c1 c2 c3 _ c7 c8 c9 c10 s1 s2 s3 s7 s8 s9 s10 ttl dl en tm sn wa ba (bounds_u64 hc).1 hcl (bounds_u64 hs).1 (bounds_u64 hw).1 (fun i hi => ⟨(bounds_u64 (h8.2.2 i hi)).1, (bounds_u64 (h9.2.2 i hi)).1⟩) h1.2.1 h2.2.1 h3.2 hl h7.2.1.two h8.2.1.two h9.2.1.two h10.2.1.two hm
  · exact early5 w c _ _ _ l1 l2 l3 l7 l8 l9 l10 c1 c2 c3 c7 c8 c9 c10 s1 s2 s3 s7 s8 s9 s10 h1.1 h2.1 h3.1 h7.1 h8.1 h9.1 h10.1 h

namespace L5
set_option maxRecDepth 100000 in
theorem lifted (os : Os) (started : os.Started) (H : Type) (enc : TypeId × Value → H) :
    ReturnsInHanded {} Try.checked os 5 .any (Rows.fnLeaseTimeAndDeadlinesNeverGoBackSpec.pre6 enc Try.prog Try.f5 Rows.fnLeaseTimeAndDeadlinesNeverGoBackRow.domain false) (Rows.fnLeaseTimeAndDeadlinesNeverGoBackSpec.post enc Try.prog Try.f5 false true false false) := by
  refine returnsInHanded_of_change (C := Try.checked) own started (by kernel_rfl) Try.func5
    (ChangeSpec.witness6 (enc := enc) (C := Try.checked) false ⟨#[], #[.int .u64 0, .int .u64 0, .int .u64 0, .int .u64 0, .slice none 0 0, .slice none 0 0, .slice none 0 0, .slice none 0 0, .slice none 0 0, .slice none 0 0, .slice none 0 0], []⟩ 8 (by kernel_rfl) (by kernel_rfl) (by kernel_rfl) (by kernel_rfl)) ?_
  intro W base args ds gs before hval0 hW hcnd _
  have hval : ∀ (j : Nat) t v, Try.f5.params[j]? = some t → args[j]? = some v → Value.okWide Try.prog W .any base t v := hval0
  have hW' := hW
  obtain ⟨p, q, hA0, hV, rfl, hfz, hnd⟩ := hW
  have hA : DataW.TrodAll enc Try.prog W 0 (fun _ => true) true Try.f5.params.toList args.toList ds p := hA0
  rw [Try.params5] at hA hval
  obtain ⟨v0, vs0, d0, ds0, p0, q0, hargs, rfl, rfl, h0, r0⟩ := trodAll_cons hA
  obtain ⟨v1, vs1, d1, ds1, p1, q1, rfl, rfl, rfl, h1, r1⟩ := trodAll_cons r0
  obtain ⟨v2, vs2, d2, ds2, p2, q2, rfl, rfl, rfl, h2, r2⟩ := trodAll_cons r1
  obtain ⟨v3, vs3, d3, ds3, p3, q3, rfl, rfl, rfl, h3, r3⟩ := trodAll_cons r2
  obtain ⟨v4, vs4, d4, ds4, p4, q4, rfl, rfl, rfl, h4, r4⟩ := trodAll_cons r3
  obtain ⟨v5, vs5, d5, ds5, p5, q5, rfl, rfl, rfl, h5, r5⟩ := trodAll_cons r4
  obtain ⟨v6, vs6, d6, ds6, p6, q6, rfl, rfl, rfl, h6, r6⟩ := trodAll_cons r5
  obtain ⟨v7, vs7, d7, ds7, p7, q7, rfl, rfl, rfl, h7, r7⟩ := trodAll_cons r6
  obtain ⟨v8, vs8, d8, ds8, p8, q8, rfl, rfl, rfl, h8, r8⟩ := trodAll_cons r7
  obtain ⟨v9, vs9, d9, ds9, p9, q9, rfl, rfl, rfl, h9, r9⟩ := trodAll_cons r8
  obtain ⟨v10, vs10, d10, ds10, p10, q10, rfl, rfl, rfl, h10, r10⟩ := trodAll_cons r9
  obtain ⟨rfl, rfl, rfl⟩ := trodAll_nil r10
  obtain rfl : args = #[v0, v1, v2, v3, v4, v5, v6, v7, v8, v9, v10] := by cases args; simp_all
  obtain ⟨rfl, rfl⟩ := trodVars_none hV
  have k0 := h0
  have lt0 : ∀ x ∈ p0, x.block < W.heap.size := by obtain ⟨m, hm⟩ := k0; exact DataW.trod_lt m _ _ _ hm
  obtain ⟨x0, rfl, _, _, wx0⟩ := open_int Try.underlying22 (hval 0 22 v0 rfl rfl) h0
  have k1 := h1
  have lt1 : ∀ x ∈ p1, x.block < W.heap.size := by obtain ⟨m, hm⟩ := k1; exact DataW.trod_lt m _ _ _ hm
  obtain ⟨x1, rfl, _, _, wx1⟩ := open_int Try.underlying22 (hval 1 22 v1 rfl rfl) h1
  have k2 := h2
  have lt2 : ∀ x ∈ p2, x.block < W.heap.size := by obtain ⟨m, hm⟩ := k2; exact DataW.trod_lt m _ _ _ hm
  obtain ⟨x2, rfl, _, _, wx2⟩ := open_int Try.underlying22 (hval 2 22 v2 rfl rfl) h2
  have k3 := h3
  have lt3 : ∀ x ∈ p3, x.block < W.heap.size := by obtain ⟨m, hm⟩ := k3; exact DataW.trod_lt m _ _ _ hm
  obtain ⟨x3, rfl, _, _, wx3⟩ := open_int Try.underlying22 (hval 3 22 v3 rfl rfl) h3
  have k4 := h4
  have lt4 : ∀ x ∈ p4, x.block < W.heap.size := by obtain ⟨m, hm⟩ := k4; exact DataW.trod_lt m _ _ _ hm
  obtain ⟨a4, len4, cap4, rfl⟩ := okWide_slice Try.underlying23 (hval 4 23 v4 rfl rfl)
  obtain ⟨z4, w4⟩ : ∃ f, InI W a4 len4 f := in_ints h4
  have k5 := h5
  have lt5 : ∀ x ∈ p5, x.block < W.heap.size := by obtain ⟨m, hm⟩ := k5; exact DataW.trod_lt m _ _ _ hm
  obtain ⟨a5, len5, cap5, rfl⟩ := okWide_slice Try.underlying23 (hval 5 23 v5 rfl rfl)
  obtain ⟨z5, w5⟩ : ∃ f, InI W a5 len5 f := in_ints h5
  have k6 := h6
  have lt6 : ∀ x ∈ p6, x.block < W.heap.size := by obtain ⟨m, hm⟩ := k6; exact DataW.trod_lt m _ _ _ hm
  obtain ⟨a6, len6, cap6, rfl⟩ := okWide_slice Try.underlying24 (hval 6 24 v6 rfl rfl)
  obtain ⟨z6, w6⟩ : ∃ f, InB W a6 len6 f := in_bools h6
  have k7 := h7
  have lt7 : ∀ x ∈ p7, x.block < W.heap.size := by obtain ⟨m, hm⟩ := k7; exact DataW.trod_lt m _ _ _ hm
  obtain ⟨a7, len7, cap7, rfl⟩ := okWide_slice Try.underlying23 (hval 7 23 v7 rfl rfl)
  obtain ⟨z7, w7⟩ : ∃ f, InI W a7 len7 f := in_ints h7
  have k8 := h8
  have lt8 : ∀ x ∈ p8, x.block < W.heap.size := by obtain ⟨m, hm⟩ := k8; exact DataW.trod_lt m _ _ _ hm
  obtain ⟨a8, len8, cap8, rfl⟩ := okWide_slice Try.underlying23 (hval 8 23 v8 rfl rfl)
  obtain ⟨z8, w8⟩ : ∃ f, InI W a8 len8 f := in_ints h8
  have k9 := h9
  have lt9 : ∀ x ∈ p9, x.block < W.heap.size := by obtain ⟨m, hm⟩ := k9; exact DataW.trod_lt m _ _ _ hm
  obtain ⟨a9, len9, cap9, rfl⟩ := okWide_slice Try.underlying23 (hval 9 23 v9 rfl rfl)
  obtain ⟨z9, w9⟩ : ∃ f, InI W a9 len9 f := in_ints h9
  have k10 := h10
  have lt10 : ∀ x ∈ p10, x.block < W.heap.size := by obtain ⟨m, hm⟩ := k10; exact DataW.trod_lt m _ _ _ hm
  obtain ⟨a10, len10, cap10, rfl⟩ := okWide_slice Try.underlying23 (hval 10 23 v10 rfl rfl)
  obtain ⟨z10, w10⟩ : ∃ f, InI W a10 len10 f := in_ints h10
  clear hA0 hval0
  refine (all5 W x0 x1 x2 x3 wx0 wx2 wx3 len4 len5 len6 len7 len8 len9 len10 cap4 cap5 cap6 cap7 cap8 cap9 cap10 a4 a5 a6 a7 a8 a9 a10 z4 z5 z6 z7 z8 z9 z10 w4 w5 w6 w7 w8 w9 w10).mono fun e W' ⟨he, bel⟩ => ?_
  subst he
  exact ⟨_, rfl, _, _, _, [], _, [], hW', trodAll_mk1 (shut_bool Try.underlying4 _), (trodAll_cons_mk (Below.trod laidOut (by kernel_rfl) (of_decide_eq_true (by kernel_rfl)) k0 bel lt0) (trodAll_cons_mk (Below.trod laidOut (by kernel_rfl) (of_decide_eq_true (by kernel_rfl)) k1 bel lt1) (trodAll_cons_mk (Below.trod laidOut (by kernel_rfl) (of_decide_eq_true (by kernel_rfl)) k2 bel lt2) (trodAll_cons_mk (Below.trod laidOut (by kernel_rfl) (of_decide_eq_true (by kernel_rfl)) k3 bel lt3) (trodAll_cons_mk (Below.trod laidOut (by kernel_rfl) (of_decide_eq_true (by kernel_rfl)) k4 bel lt4) (trodAll_cons_mk (Below.trod laidOut (by kernel_rfl) (of_decide_eq_true (by kernel_rfl)) k5 bel lt5) (trodAll_cons_mk (Below.trod laidOut (by kernel_rfl) (of_decide_eq_true (by kernel_rfl)) k6 bel lt6) (trodAll_cons_mk (Below.trod laidOut (by kernel_rfl) (of_decide_eq_true (by kernel_rfl)) k7 bel lt7) (trodAll_cons_mk (Below.trod laidOut (by kernel_rfl) (of_decide_eq_true (by kernel_rfl)) k8 bel lt8) (trodAll_cons_mk (Below.trod laidOut (by kernel_rfl) (of_decide_eq_true (by kernel_rfl)) k9 bel lt9) (trodAll_cons_mk (Below.trod laidOut (by kernel_rfl) (of_decide_eq_true (by kernel_rfl)) k10 bel lt10) trodAll_mk0))))))))))), rfl, bel.frame _, fun h => by cases h⟩

theorem over : Rows.fnLeaseTimeAndDeadlinesNeverGoBackRow.holds Try.pinned (OpenSpec.ofChange Rows.fnLeaseTimeAndDeadlinesNeverGoBackSpec) :=
  OpenClaim.holds_of_wide 5 Try.f5 rfl rfl rfl rfl rfl rfl rfl ⟨rfl, rfl, rfl, rfl, rfl⟩ rfl rfl rfl rfl rfl (by kernel_rfl) Try.func5 (by kernel_rfl)
    (of_decide_eq_true (by kernel_rfl)) (by unfold Func.isWrapper; first | (rw [if_pos (by decide +kernel)]; kernel_rfl) | (rw [if_neg (by decide +kernel)]; exact ⟨rfl, rfl⟩))
    (fun os started H enc _ => lifted os started H enc)

theorem proved : Rows.FnLeaseTimeAndDeadlinesNeverGoBackSaid := over

end L5

/-- THE STATEMENT. -/
theorem FnLeaseTimeAndDeadlinesNeverGoBack_proved : Rows.FnLeaseTimeAndDeadlinesNeverGoBackSaid := L5.proved

end Go.Proofs.Qxb6606085a
