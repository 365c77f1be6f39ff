import Derived.Test.Qxb6606085aAdv5
import Derived.Deep.QuietTactic
import Derived.BigQuiet
import Derived.BigRegion
namespace Go.Proofs.Qxb6606085a
open Go.RowKit Go.Maps
set_option linter.unusedVariables false

/-- The struct at, as 'advance' boxes it, its Back struck. -/
abbrev atObj (a b d : Int) : Obj := .cells #[.int .u64 a, .int .u64 b, .int .u64 d, .int .u64 0] 29
section
variable {w : World} {M B L n : Nat} {c t s wl : Int} {ttl dl : Nat → Int} {en : Nat → Bool} (a b d bk : Int)

set_option maxHeartbeats 400000 in
theorem adv1 (T : Tab w M B L n c t s wl ttl dl en) (hlt : a < t) :
    Calls Try.prog 18 #[.pointer (some ⟨B, 0, .none⟩), .agg #[.int .u64 a, .int .u64 b, .int .u64 d, .int .u64 bk]] w fun e w' => e = .returned (.tuple #[]) ∧ ∃ k, w' = (w.alloc (atObj a b d)).drewN k := by
  obtain ⟨hB, h0, h1, h2, h3, h4, h5, f0, f1, f2, f3, f4⟩ := T.facts
  clear T
  go_enter Try.func18, Try.ntmps18
  go_wp2
  go_quiet (fail)
  go_wp2
  exact bodyPost_ret (results_none Try.results18 _ _ _) rfl ⟨rfl, _, rfl⟩

set_option maxHeartbeats 400000 in
theorem adv2 (T : Tab w M B L n c t s wl ttl dl en) (hle : b ≤ s) :
    Calls Try.prog 18 #[.pointer (some ⟨B, 0, .none⟩), .agg #[.int .u64 t, .int .u64 b, .int .u64 d, .int .u64 bk]] w fun e w' => e = .returned (.tuple #[]) ∧ ∃ k, w' = (w.alloc (atObj t b d)).drewN k := by
  have e1 : (t == t) = true := by simp
  obtain ⟨hB, h0, h1, h2, h3, h4, h5, f0, f1, f2, f3, f4⟩ := T.facts
  clear T
  go_enter Try.func18, Try.ntmps18
  go_wp2
  go_quiet (fail)
  go_wp2
  go_quiet (fail)
  go_wp2
  go_quiet (fail)
  go_wp2
  simp only [World.drewN_drewN]
  exact bodyPost_ret (results_none Try.results18 _ _ _) rfl ⟨rfl, _, rfl⟩

set_option maxHeartbeats 400000 in
theorem adv3 (T : Tab w M B L n c t s wl ttl dl en) (hlt : s < b) :
    Calls Try.prog 18 #[.pointer (some ⟨B, 0, .none⟩), .agg #[.int .u64 t, .int .u64 b, .int .u64 d, .int .u64 bk]] w fun e w' => e = .returned (.tuple #[]) ∧ ∃ k, w' = setLast (((w.alloc (atObj t b d)).drewN k).setCell ⟨B, 0, .none⟩ (.int .u64 (IntKind.u64.wrap (c + IntKind.u64.wrap (b - s))))) B t b d := by
  have e1 : (t == t) = true := by simp
  obtain ⟨hB, h0, h1, h2, h3, h4, h5, f0, f1, f2, f3, f4⟩ := T.facts
  clear T
  go_enter Try.func18, Try.ntmps18
  go_wp2
  go_quiet (fail)
  go_wp2
  go_quiet (fail)
  go_wp2
  go_quiet (fail)
  go_wp2
  go_region
  go_wp2
  exact bodyPost_ret (results_none Try.results18 _ _ _) rfl ⟨rfl, _, rfl⟩

set_option maxHeartbeats 400000 in
theorem adv4a (T : Tab w M B L n c t s wl ttl dl en) (hlt : t < a) (ht : (t != 0) = false) :
    Calls Try.prog 18 #[.pointer (some ⟨B, 0, .none⟩), .agg #[.int .u64 a, .int .u64 b, .int .u64 d, .int .u64 bk]] w fun e w' => e = .returned (.tuple #[]) ∧ ∃ k, w' = setLast ((w.alloc (atObj a b d)).drewN k) B a b d := by
  have e0 : decide (a < t) = false := by simp; omega
  have e1 : (a == t) = false := by simp; omega
  obtain ⟨hB, h0, h1, h2, h3, h4, h5, f0, f1, f2, f3, f4⟩ := T.facts
  clear T
  go_enter Try.func18, Try.ntmps18
  go_wp2
  go_quiet (fail)
  go_wp2
  go_quiet (fail)
  go_wp2
  go_quiet (fail)
  go_wp2
  go_end0
  exact ⟨rfl, _, rfl⟩

set_option maxHeartbeats 400000 in
theorem adv4b (T : Tab w M B L n c t s wl ttl dl en) (hlt : t < a) (ht : (t != 0) = true) (hw : (wl != 0) = false) :
    Calls Try.prog 18 #[.pointer (some ⟨B, 0, .none⟩), .agg #[.int .u64 a, .int .u64 b, .int .u64 d, .int .u64 bk]] w fun e w' => e = .returned (.tuple #[]) ∧ ∃ k, w' = setLast ((w.alloc (atObj a b d)).drewN k) B a b d := by
  have e0 : decide (a < t) = false := by simp; omega
  have e1 : (a == t) = false := by simp; omega
  obtain ⟨hB, h0, h1, h2, h3, h4, h5, f0, f1, f2, f3, f4⟩ := T.facts
  clear T
  go_enter Try.func18, Try.ntmps18
  go_wp2
  go_quiet (fail)
  go_wp2
  go_quiet (fail)
  go_wp2
  go_quiet (fail)
  go_wp2
  go_end0
  exact ⟨rfl, _, rfl⟩

set_option maxHeartbeats 400000 in
theorem adv4c (T : Tab w M B L n c t s wl ttl dl en) (hlt : t < a) (ht : (t != 0) = true) (hw : (wl != 0) = true) (hd : decide (wl < d) = false) :
    Calls Try.prog 18 #[.pointer (some ⟨B, 0, .none⟩), .agg #[.int .u64 a, .int .u64 b, .int .u64 d, .int .u64 bk]] w fun e w' => e = .returned (.tuple #[]) ∧ ∃ k, w' = setLast ((w.alloc (atObj a b d)).drewN k) B a b d := by
  have e0 : decide (a < t) = false := by simp; omega
  have e1 : (a == t) = false := by simp; omega
  obtain ⟨hB, h0, h1, h2, h3, h4, h5, f0, f1, f2, f3, f4⟩ := T.facts
  clear T
  go_enter Try.func18, Try.ntmps18
  go_wp2
  go_quiet (fail)
  go_wp2
  go_quiet (fail)
  go_wp2
  go_quiet (fail)
  go_wp2
  go_end0
  exact ⟨rfl, _, rfl⟩

set_option maxHeartbeats 400000 in
theorem adv6 (T : Tab w M B L n c t s wl ttl dl en) (hlt : t < a) (ht : (t != 0) = true) (hw : (wl != 0) = true) (hd : decide (wl < d) = true) (hb : decide (wl < bk) = false) (hg : decide (300 < IntKind.u64.wrap (d - wl)) = true) :
    Calls Try.prog 18 #[.pointer (some ⟨B, 0, .none⟩), .agg #[.int .u64 a, .int .u64 b, .int .u64 d, .int .u64 bk]] w fun e w' => e = .returned (.tuple #[]) ∧ ∃ k, w' = setLast (((w.alloc (atObj a b d)).drewN k).setCell ⟨B, 0, .none⟩ (.int .u64 (IntKind.u64.wrap (c + IntKind.u64.wrap (IntKind.u64.wrap (d - wl) - 300))))) B a b d := by
  have e0 : decide (a < t) = false := by simp; omega
  have e1 : (a == t) = false := by simp; omega
  obtain ⟨hB, h0, h1, h2, h3, h4, h5, f0, f1, f2, f3, f4⟩ := T.facts
  clear T
  go_enter Try.func18, Try.ntmps18
  go_wp2
  go_quiet (fail)
  go_wp2
  go_quiet (fail)
  go_wp2
  go_quiet (fail)
  go_wp2
  go_quiet (fail)
  go_wp2
  go_end0
  exact ⟨rfl, _, rfl⟩

set_option maxHeartbeats 400000 in
theorem adv7 (T : Tab w M B L n c t s wl ttl dl en) (hlt : t < a) (ht : (t != 0) = true) (hw : (wl != 0) = true) (hd : decide (wl < d) = true) (hb : decide (wl < bk) = false) (hg : decide (300 < IntKind.u64.wrap (d - wl)) = false) :
    Calls Try.prog 18 #[.pointer (some ⟨B, 0, .none⟩), .agg #[.int .u64 a, .int .u64 b, .int .u64 d, .int .u64 bk]] w fun e w' => e = .returned (.tuple #[]) ∧ ∃ k, w' = setLast ((w.alloc (atObj a b d)).drewN k) B a b d := by
  have e0 : decide (a < t) = false := by simp; omega
  have e1 : (a == t) = false := by simp; omega
  obtain ⟨hB, h0, h1, h2, h3, h4, h5, f0, f1, f2, f3, f4⟩ := T.facts
  clear T
  go_enter Try.func18, Try.ntmps18
  go_wp2
  go_quiet (fail)
  go_wp2
  go_quiet (fail)
  go_wp2
  go_quiet (fail)
  go_wp2
  go_quiet (fail)
  go_wp2
  go_end0
  exact ⟨rfl, _, rfl⟩
end

theorem keep_up {w : World} {B L n : Nat} (o : Obj) (k : Nat) : Upto (Blk B L n) w ((w.alloc o).drewN k) := ((Upto.refl _ w).alloc o).drewN k

theorem tab_keep {w : World} {M B L n : Nat} {x : St} {ttl : Nat → Int} {en : Nat → Bool} (T : TabS w M B L n x ttl en) (o : Obj) (k : Nat) : TabS ((w.alloc o).drewN k) M B L n x ttl en :=
  T.kept (S := fun _ => False) (((Upto.refl _ w).alloc o).drewN k) (fun h => h) (fun h => h) (fun _ _ h => h)

theorem tab_last {w : World} {M B L n : Nat} {c t s wl : Int} {ttl dl : Nat → Int} {en : Nat → Bool} (T : Tab w M B L n c t s wl ttl dl en) (o : Obj) (k : Nat) (a b d : Int) :
    Upto (Blk B L n) w (setLast ((w.alloc o).drewN k) B a b d) ∧ Tab (setLast ((w.alloc o).drewN k) B a b d) M B L n c a b d ttl dl en := by
  have T1 := T.kept (S := fun _ => False) (((Upto.refl _ w).alloc o).drewN k) (fun h => h) (fun h => h) (fun _ _ h => h)
  have hmb := T.mb
  have hbl := T.bl
  exact ⟨setLast_up (keep_up o k) (Or.inl rfl) a b d, T1.turn (S := fun k => k = B) (setLast_up (Upto.refl _ _) (by rfl) a b d) (by show M ≠ B; omega) (fun i _ => by show L + i ≠ B; omega) (setLast_tb a b d T1.tb)⟩

theorem tab_clock {w : World} {M B L n : Nat} {c t s wl : Int} {ttl dl : Nat → Int} {en : Nat → Bool} (T : Tab w M B L n c t s wl ttl dl en) (o : Obj) (k : Nat) (c' a b d : Int) :
    Upto (Blk B L n) w (setLast (((w.alloc o).drewN k).setCell ⟨B, 0, .none⟩ (.int .u64 c')) B a b d) ∧ Tab (setLast (((w.alloc o).drewN k).setCell ⟨B, 0, .none⟩ (.int .u64 c')) B a b d) M B L n c' a b d ttl dl en := by
  have T1 := T.kept (S := fun _ => False) (((Upto.refl _ w).alloc o).drewN k) (fun h => h) (fun h => h) (fun _ _ h => h)
  have hmb := T.mb
  have hbl := T.bl
  have u2 : Upto (Blk B L n) w (((w.alloc o).drewN k).setCell ⟨B, 0, .none⟩ (.int .u64 c')) := (keep_up o k).setCell (p := ⟨B, 0, .none⟩) (Or.inr (Or.inl rfl)) _
  have u3 : Upto (fun k => k = B) ((w.alloc o).drewN k) (((w.alloc o).drewN k).setCell ⟨B, 0, .none⟩ (.int .u64 c')) :=
    Upto.setCell (S := fun k => k = B) (Upto.refl (fun k => k = B) ((w.alloc o).drewN k)) (p := ⟨B, 0, .none⟩) (Or.inr (by rfl)) _
  have e1 := heap_setCell_same _ B 0 _ 44 (.int .u64 c') T1.tb
  exact ⟨setLast_up u2 (Or.inl rfl) a b d, T1.turn (S := fun k => k = B) (setLast_up u3 (by rfl) a b d) (by show M ≠ B; omega) (fun i _ => by show L + i ≠ B; omega) (setLast_tb a b d e1)⟩

/-- '(*leaseTable).advance' IS 'adv'. -/
theorem advance_any {w : World} {M B L n : Nat} {x : St} {ttl : Nat → Int} {en : Nat → Bool} (T : TabS w M B L n x ttl en) (a b d bk : Int) :
    Calls Try.prog 18 #[.pointer (some ⟨B, 0, .none⟩), .agg #[.int .u64 a, .int .u64 b, .int .u64 d, .int .u64 bk]] w fun e w' => e = .returned (.tuple #[]) ∧ Upto (Blk B L n) w w' ∧ TabS w' M B L n (adv ttl en x a b d bk) ttl en := by
  by_cases h1 : a < x.t
  · refine (adv1 a b d bk T h1).mono ?_
    rintro e w' ⟨rfl, k, rfl⟩
    rw [show adv ttl en x a b d bk = x from by simp [adv, h1]]
    exact ⟨rfl, keep_up _ k, tab_keep T _ k⟩
  by_cases h2 : a = x.t
  · by_cases h3 : x.s < b
    · subst h2
      refine (adv3 b d bk T h3).mono ?_
      rintro e w' ⟨rfl, k, rfl⟩
      rw [show adv ttl en x x.t b d bk = ⟨IntKind.u64.wrap (x.c + IntKind.u64.wrap (b - x.s)), x.t, b, d, x.dl⟩ from by simp [adv, h3]]
      exact ⟨rfl, tab_clock T _ k _ _ _ _⟩
    · subst h2
      refine (adv2 b d bk T (by omega)).mono ?_
      rintro e w' ⟨rfl, k, rfl⟩
      rw [show adv ttl en x x.t b d bk = x from by simp [adv, h3]]
      exact ⟨rfl, keep_up _ k, tab_keep T _ k⟩
  have hlt : x.t < a := by omega
  by_cases h4 : x.t = 0
  · refine (adv4a a b d bk T hlt (by simp [h4])).mono ?_
    rintro e w' ⟨rfl, k, rfl⟩
    rw [show adv ttl en x a b d bk = ⟨x.c, a, b, d, x.dl⟩ from by unfold adv; rw [if_neg h1, if_neg h2, if_neg (by simp [h4])]]
    exact ⟨rfl, tab_last T _ k _ _ _⟩
  by_cases h5 : x.wl = 0
  · refine (adv4b a b d bk T hlt (by simp [h4]) (by simp [h5])).mono ?_
    rintro e w' ⟨rfl, k, rfl⟩
    rw [show adv ttl en x a b d bk = ⟨x.c, a, b, d, x.dl⟩ from by simp [adv, h1, h2, h5]]
    exact ⟨rfl, tab_last T _ k _ _ _⟩
  by_cases h6 : x.wl < d
  · by_cases h7 : x.wl < bk
    · refine (adv5 a b d bk T hlt (by simp [h4]) (by simp [h5]) (by simp [h6]) (by simp [h7])).mono ?_
      rintro e w' ⟨rfl, hu, hT⟩
      rw [show adv ttl en x a b d bk = ⟨x.c, a, b, d, newDl x.c ttl x.dl en⟩ from by simp [adv, h1, h2, h4, h5, h6, h7]]
      exact ⟨rfl, hu, hT⟩
    · by_cases h8 : 300 < IntKind.u64.wrap (d - x.wl)
      · refine (adv6 a b d bk T hlt (by simp [h4]) (by simp [h5]) (by simp [h6]) (by simp; omega) (by simp [h8])).mono ?_
        rintro e w' ⟨rfl, k, rfl⟩
        rw [show adv ttl en x a b d bk = ⟨IntKind.u64.wrap (x.c + IntKind.u64.wrap (IntKind.u64.wrap (d - x.wl) - 300)), a, b, d, x.dl⟩ from by simp [adv, h1, h2, h4, h5, h6, h7, h8]]
        exact ⟨rfl, tab_clock T _ k _ _ _ _⟩
      · refine (adv7 a b d bk T hlt (by simp [h4]) (by simp [h5]) (by simp [h6]) (by simp; omega) (by simp; omega)).mono ?_
        rintro e w' ⟨rfl, k, rfl⟩
        rw [show adv ttl en x a b d bk = ⟨x.c, a, b, d, x.dl⟩ from by simp [adv, h1, h2, h4, h5, h6, h7, h8]]
        exact ⟨rfl, tab_last T _ k _ _ _⟩
  · refine (adv4c a b d bk T hlt (by simp [h4]) (by simp [h5]) (by simp; omega)).mono ?_
    rintro e w' ⟨rfl, k, rfl⟩
    rw [show adv ttl en x a b d bk = ⟨x.c, a, b, d, x.dl⟩ from by simp [adv, h1, h2, h6]]
    exact ⟨rfl, tab_last T _ k _ _ _⟩
end Go.Proofs.Qxb6606085a
