import Derived.Test.Qxb6612292aRows
namespace Go.Proofs.Qxb6612292a
set_option linter.unusedVariables false

abbrev bl (x y : List UInt8) : Bool := Op.bytesLess x y

theorem bl_irrefl : ∀ x : List UInt8, Op.bytesLess x x = false
  | [] => rfl
  | a :: x => by simp [Op.bytesLess, bl_irrefl x]

theorem bl_trans : ∀ x y z : List UInt8, Op.bytesLess x y = true → Op.bytesLess y z = true → Op.bytesLess x z = true
  | x, [], z, h1, _ => by cases x <;> simp [Op.bytesLess] at h1
  | x, b :: y, [], _, h2 => by simp [Op.bytesLess] at h2
  | [], b :: y, c :: z, _, _ => by simp [Op.bytesLess]
  | a :: x, b :: y, c :: z, h1, h2 => by
    simp only [Op.bytesLess, Bool.or_eq_true, Bool.and_eq_true, decide_eq_true_eq, beq_iff_eq] at h1 h2 ⊢
    rcases h1 with h1 | ⟨rfl, h1⟩
    · rcases h2 with h2 | ⟨rfl, h2⟩
      · exact Or.inl (UInt8.lt_trans h1 h2)
      · exact Or.inl h1
    · rcases h2 with h2 | ⟨rfl, h2⟩
      · exact Or.inl h2
      · exact Or.inr ⟨rfl, bl_trans x y z h1 h2⟩

theorem bl_tri : ∀ x y : List UInt8, Op.bytesLess x y = false → Op.bytesLess y x = false → x = y
  | [], [], _, _ => rfl
  | [], b :: y, h, _ => by simp [Op.bytesLess] at h
  | a :: x, [], _, h => by simp [Op.bytesLess] at h
  | a :: x, b :: y, h1, h2 => by
    simp only [Op.bytesLess, Bool.or_eq_false_iff, Bool.and_eq_false_iff, decide_eq_false_iff_not, beq_eq_false_iff_ne] at h1 h2
    have e : a = b := by
      have n1 := h1.1
      have n2 := h2.1
      rw [UInt8.lt_iff_toNat_lt] at n1 n2
      exact UInt8.toNat_inj.1 (by omega)
    subst e
    have g1 : Op.bytesLess x y = false := by rcases h1.2 with h | h; exact absurd rfl h; exact h
    have g2 : Op.bytesLess y x = false := by rcases h2.2 with h | h; exact absurd rfl h; exact h
    rw [bl_tri x y g1 g2]

/-- A dot: its replica's bytes, its number. -/
abbrev Dt := ByteArray × Int

def lessD (a b : Dt) : Bool := if a.1.toList != b.1.toList then Op.bytesLess a.1.toList b.1.toList else decide (a.2 < b.2)
def cmpS (x y : List UInt8) : Int := if Op.bytesLess x y then -1 else if !(Op.bytesLess x y || x == y) then 1 else 0
def cmpI (x y : Int) : Int := if x < y then -1 else if y < x then 1 else 0
def cmpD (a b : Dt) : Int := if cmpS a.1.toList b.1.toList != 0 then cmpS a.1.toList b.1.toList else cmpI a.2 b.2

theorem cmpS_zero (x y : List UInt8) : cmpS x y = 0 ↔ x = y := by
  unfold cmpS
  cases h : Op.bytesLess x y
  · by_cases e : x = y
    · subst e; simp
    · simp [e]
  · simp
    intro e
    subst e
    rw [bl_irrefl] at h; cases h
theorem cmpS_neg (x y : List UInt8) : cmpS x y < 0 ↔ Op.bytesLess x y = true := by
  unfold cmpS
  cases h : Op.bytesLess x y
  · simp; split <;> omega
  · simp

theorem cmpD_zero (a b : Dt) : cmpD a b = 0 ↔ a.1.toList = b.1.toList ∧ a.2 = b.2 := by
  unfold cmpD
  by_cases h : cmpS a.1.toList b.1.toList = 0
  · have e := (cmpS_zero _ _).1 h
    rw [if_neg (by simp [h])]
    unfold cmpI
    constructor
    · intro g; refine ⟨e, ?_⟩; split at g <;> (try split at g) <;> omega
    · intro g; rw [if_neg (by omega), if_neg (by omega)]
  · rw [if_pos (by simp [h])]
    constructor
    · intro g; exact absurd g h
    · intro g; exact absurd ((cmpS_zero _ _).2 g.1) h
theorem cmpD_neg (a b : Dt) : cmpD a b < 0 ↔ lessD a b = true := by
  unfold cmpD lessD
  by_cases h : cmpS a.1.toList b.1.toList = 0
  · have e := (cmpS_zero _ _).1 h
    rw [if_neg (by simp [h]), if_neg (by simp [e])]
    unfold cmpI
    simp
    constructor
    · intro g; split at g <;> (try split at g) <;> omega
    · intro g; rw [if_pos g]; omega
  · have e : ¬ a.1.toList = b.1.toList := fun g => h ((cmpS_zero _ _).2 g)
    rw [if_pos (by simp [h]), if_pos (by simp [e])]
    exact cmpS_neg _ _

theorem less_trans {a b c : Dt} (h1 : lessD a b = true) (h2 : lessD b c = true) : lessD a c = true := by
  unfold lessD at *
  by_cases e1 : a.1.toList = b.1.toList
  · rw [if_neg (by simp [e1])] at h1
    by_cases e2 : b.1.toList = c.1.toList
    · rw [if_neg (by simp [e2])] at h2
      rw [if_neg (by simp [e1, e2])]
      simp at *; omega
    · rw [if_pos (by simp [e2])] at h2
      rw [if_pos (by simp [e1, e2]), e1]; exact h2
  · rw [if_pos (by simp [e1])] at h1
    by_cases e2 : b.1.toList = c.1.toList
    · rw [if_neg (by simp [e2])] at h2
      rw [if_pos (by simp [← e2, e1]), ← e2]; exact h1
    · rw [if_pos (by simp [e2])] at h2
      have h3 := bl_trans _ _ _ h1 h2
      rw [if_pos ?_]
      · exact h3
      · simp; intro e; rw [e, bl_irrefl] at h3; cases h3
theorem less_irrefl (a : Dt) : lessD a a = false := by unfold lessD; simp
theorem less_asymm {a b : Dt} (h : lessD a b = true) : lessD b a = false := by
  cases g : lessD b a
  · rfl
  · have := less_trans h g; rw [less_irrefl] at this; cases this
theorem less_tri {a b : Dt} (h1 : lessD a b = false) (h2 : ¬ (a.1.toList = b.1.toList ∧ a.2 = b.2)) : lessD b a = true := by
  unfold lessD at *
  by_cases e : a.1.toList = b.1.toList
  · rw [if_neg (by simp [e])] at h1 ⊢
    simp at h1 ⊢
    have : a.2 ≠ b.2 := fun g => h2 ⟨e, g⟩
    omega
  · rw [if_pos (by simp [e])] at h1
    rw [if_pos (by simp; exact fun g => e g.symm)]
    cases g : Op.bytesLess b.1.toList a.1.toList
    · exact absurd (bl_tri _ _ h1 g) e
    · rfl

def Sorted (D : Nat → Dt) (n : Nat) : Prop := ∀ i, i + 1 < n → lessD (D i) (D (i + 1)) = true
theorem Sorted.lt {D : Nat → Dt} {n : Nat} (h : Sorted D n) (i : Nat) : ∀ j, i < j → j < n → lessD (D i) (D j) = true
  | 0, h1, _ => by omega
  | j + 1, h1, h2 => by
    by_cases e : i = j
    · subst e; exact h i h2
    · exact less_trans (h.lt i j (by omega) (by omega)) (h j h2)

/-- r: how many of the n dots come before d. -/
structure Rank (D : Nat → Dt) (n : Nat) (d : Dt) (r : Nat) : Prop where
  le : r ≤ n
  lo : ∀ k, k < r → lessD (D k) d = true
  hi : ∀ k, r ≤ k → k < n → lessD (D k) d = false

theorem Rank.own {D : Nat → Dt} {n : Nat} (h : Sorted D n) {k : Nat} (hk : k < n) : Rank D n (D k) k := by
  refine ⟨by omega, fun j hj => h.lt j k hj hk, fun j hj hn => ?_⟩
  by_cases e : j = k
  · subst e; exact less_irrefl _
  · exact less_asymm (h.lt k j (by omega) hn)
theorem Rank.uniq {D : Nat → Dt} {n : Nat} {d : Dt} {r r' : Nat} (h : Rank D n d r) (h' : Rank D n d r') : r = r' := by
  rcases Nat.lt_trichotomy r r' with g | g | g
  · have a := h.hi r (Nat.le_refl _) (by have := h'.le; omega); have b := h'.lo r g; rw [a] at b; cases b
  · exact g
  · have a := h'.hi r' (Nat.le_refl _) (by have := h.le; omega); have b := h.lo r' g; rw [a] at b; cases b

/-- d put in at place r. -/
def ins (D : Nat → Dt) (d : Dt) (r k : Nat) : Dt := if k < r then D k else if k = r then d else D (k - 1)
theorem ins_sorted {D : Nat → Dt} {n r : Nat} {d : Dt} (h : Sorted D n) (hr : Rank D n d r) (hno : r < n → ¬ ((D r).1.toList = d.1.toList ∧ (D r).2 = d.2)) : Sorted (ins D d r) (n + 1) := by
  intro i hi
  have hle := hr.le
  unfold ins
  by_cases h1 : i + 1 < r
  · rw [if_pos (by omega), if_pos h1]; exact h i (by omega)
  · by_cases h2 : i + 1 = r
    · rw [if_pos (by omega), if_neg h1, if_pos h2]; exact hr.lo i (by omega)
    · by_cases h3 : i = r
      · rw [if_neg (by omega), if_pos h3, if_neg (by omega), if_neg (by omega)]
        subst h3
        exact less_tri (hr.hi i (Nat.le_refl _) (by omega)) (hno (by omega))
      · rw [if_neg (by omega), if_neg h3, if_neg (by omega), if_neg (by omega)]
        have := h (i - 1) (by omega)
        rw [show i - 1 + 1 = i from by omega] at this
        exact this
end Go.Proofs.Qxb6612292a
