import Derived.Test.Qxb6606085aBase
namespace Go.Proofs.Qxb6606085a
open Go.RowKit Go.Maps
set_option linter.unusedVariables false

/-- The state behind the first k operations. -/
def run (ttl : Nat → Int) (en : Nat → Bool) (x : St) (tm sn wa ba : Nat → Int) : Nat → St
  | 0 => x
  | k + 1 => adv ttl en (run ttl en x tm sn wa ba k) (tm k) (sn k) (wa k) (ba k)

theorem wrap_eq (x : Int) : IntKind.u64.wrap x = x % 18446744073709551616 := by
  simp [IntKind.wrap, IntKind.bits, IntKind.signed]

section
variable {ttl : Nat → Int} {en : Nat → Bool} {x : St} {tm sn wa ba : Nat → Int}

theorem adv_low {y : St} {a b d bk : Int} (h : a ≤ y.t) :
    adv ttl en y a b d bk = if a = y.t ∧ y.s < b then ⟨IntKind.u64.wrap (y.c + IntKind.u64.wrap (b - y.s)), y.t, b, d, y.dl⟩ else y := by
  unfold adv
  by_cases h1 : a < y.t
  · rw [if_pos h1, if_neg (by omega)]
  · have h2 : a = y.t := by omega
    rw [if_neg h1, if_pos h2]
    by_cases h3 : y.s < b
    · rw [if_pos h3, if_pos ⟨h2, h3⟩, h2]
    · rw [if_neg h3, if_neg (by omega)]

/-- What holds after k operations none of which is of a later term. -/
structure Low (x : St) (tm sn wa : Nat → Int) (k : Nat) (y : St) : Prop where
  t : y.t = x.t
  dl : y.dl = x.dl
  c : y.c = IntKind.u64.wrap (x.c + IntKind.u64.wrap (y.s - x.s))
  top : ∀ i, i < k → tm i = x.t → sn i ≤ y.s
  wl : (y.s = x.s ∧ y.wl = x.wl) ∨ (x.s < y.s ∧ ∃ j, j < k ∧ tm j = x.t ∧ sn j = y.s ∧ y.wl = wa j ∧ ∀ i, i < j → tm i = x.t → sn i < y.s)

theorem run_low (hc : 0 ≤ x.c ∧ x.c < 18446744073709551616) : ∀ k, (∀ i, i < k → tm i ≤ x.t) → Low x tm sn wa k (run ttl en x tm sn wa ba k)
  | 0, _ => ⟨rfl, rfl, by show x.c = _; rw [wrap_eq, wrap_eq]; simp only [run]; omega, fun i hi => by omega, Or.inl ⟨rfl, rfl⟩⟩
  | k + 1, h => by
    have ih := run_low hc k (fun i hi => h i (by omega))
    have hk := h k (by omega)
    show Low x tm sn wa (k + 1) (adv ttl en (run ttl en x tm sn wa ba k) (tm k) (sn k) (wa k) (ba k))
    generalize run ttl en x tm sn wa ba k = y at ih
    rw [adv_low (by rw [ih.t]; exact hk)]
    by_cases hh : tm k = y.t ∧ y.s < sn k
    · rw [if_pos hh]
      refine ⟨ih.t, ih.dl, ?_, ?_, Or.inr ?_⟩
      · show IntKind.u64.wrap (y.c + IntKind.u64.wrap (sn k - y.s)) = IntKind.u64.wrap (x.c + IntKind.u64.wrap (sn k - x.s))
        rw [ih.c]
        simp only [wrap_eq]
        omega
      · intro i hi ht
        show sn i ≤ sn k
        by_cases e : i = k
        · subst e; omega
        · have := ih.top i (by omega) ht; omega
      · have hs : x.s ≤ y.s := by rcases ih.wl with ⟨e, _⟩ | ⟨e, _⟩ <;> omega
        refine ⟨by show x.s < sn k; omega, k, by omega, by rw [hh.1, ih.t], rfl, rfl, fun i hi ht => ?_⟩
        show sn i < sn k
        have := ih.top i hi ht
        omega
    · rw [if_neg hh]
      refine ⟨ih.t, ih.dl, ih.c, ?_, ?_⟩
      · intro i hi ht
        by_cases e : i = k
        · subst e
          have : tm i = y.t := by rw [ih.t]; exact ht
          have hn : ¬ y.s < sn i := fun h => hh ⟨this, h⟩
          omega
        · exact ih.top i (by omega) ht
      · rcases ih.wl with h1 | ⟨h1, j, h2, h3⟩
        · exact Or.inl h1
        · exact Or.inr ⟨h1, j, by omega, h3⟩

/-- The Go text's own reckoning of the largest Since. -/
theorem run_top {k : Nat} (hc : 0 ≤ x.c ∧ x.c < 18446744073709551616) (h : ∀ i, i < k + 1 → tm i ≤ x.t) :
    (run ttl en x tm sn wa ba (k + 1)).s = if tm k = x.t ∧ (run ttl en x tm sn wa ba k).s < sn k then sn k else (run ttl en x tm sn wa ba k).s := by
  have ih := run_low (ttl := ttl) (en := en) (sn := sn) (wa := wa) (ba := ba) hc k (fun i hi => h i (by omega))
  have hk := h k (by omega)
  show (adv ttl en (run ttl en x tm sn wa ba k) (tm k) (sn k) (wa k) (ba k)).s = _
  generalize run ttl en x tm sn wa ba k = y at ih
  rw [adv_low (by rw [ih.t]; exact hk), ih.t]
  split <;> rfl
end
end Go.Proofs.Qxb6606085a
