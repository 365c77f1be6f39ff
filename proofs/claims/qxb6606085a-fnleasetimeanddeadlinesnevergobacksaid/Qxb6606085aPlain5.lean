import Derived.Test.Qxb6606085aPlain
namespace Go.Proofs.Qxb6606085a
open Go.RowKit Go.Maps
set_option linter.unusedVariables false

/-- One step of a script in which no sum can wrap. -/
structure Step (ttl : Nat → Int) (en : Nat → Bool) (y z : St) : Prop where
  c : y.c ≤ z.c
  c2 : z.c ≤ y.c + 281474976710656
  t : y.t ≤ z.t
  s : 0 ≤ z.s
  wl : 0 ≤ z.wl
  dl : ∀ i, y.dl i ≤ z.dl i
  ch : ∀ i, z.dl i ≠ y.dl i → en i = false ∧ z.c = y.c ∧ z.dl i = IntKind.u64.wrap (z.c + IntKind.u64.wrap (ttl i * 1000))

theorem newDl_le (c : Int) (ttl dl : Nat → Int) (en : Nat → Bool) (i : Nat) : dl i ≤ newDl c ttl dl en i := by
  unfold newDl; split
  · omega
  · split <;> omega
theorem newDl_ch {c : Int} {ttl dl : Nat → Int} {en : Nat → Bool} {i : Nat} (h : newDl c ttl dl en i ≠ dl i) : en i = false ∧ newDl c ttl dl en i = IntKind.u64.wrap (c + IntKind.u64.wrap (ttl i * 1000)) := by
  unfold newDl at h ⊢
  cases he : en i
  · rw [he] at h
    simp only [Bool.false_eq_true, if_false] at h ⊢
    by_cases h2 : dl i < IntKind.u64.wrap (c + IntKind.u64.wrap (ttl i * 1000))
    · rw [if_pos h2]; exact ⟨trivial, rfl⟩
    · rw [if_neg h2] at h; exact absurd rfl h
  · rw [he] at h; simp at h

theorem adv_step {ttl : Nat → Int} {en : Nat → Bool} {y : St} {a b d bk : Int} (hc : 0 ≤ y.c ∧ y.c ≤ 6917529027641081856) (hs : 0 ≤ y.s) (hw : 0 ≤ y.wl) (hb : 0 ≤ b ∧ b ≤ 281474976710656) (hd : 0 ≤ d ∧ d ≤ 281474976710656) :
    Step ttl en y (adv ttl en y a b d bk) := by
  unfold adv
  by_cases h1 : a < y.t
  · rw [if_pos h1]; exact ⟨by omega, by omega, by omega, hs, hw, fun i => by omega, fun i h => absurd rfl h⟩
  rw [if_neg h1]
  by_cases h2 : a = y.t
  · rw [if_pos h2]
    by_cases h3 : y.s < b
    · rw [if_pos h3]
      have e : IntKind.u64.wrap (y.c + IntKind.u64.wrap (b - y.s)) = y.c + (b - y.s) := by simp only [wrap_eq]; omega
      rw [e]
      exact ⟨by show y.c ≤ y.c + (b - y.s); omega, by show y.c + (b - y.s) ≤ _; omega, by show y.t ≤ a; omega, hb.1, hd.1, fun i => by show y.dl i ≤ y.dl i; omega, fun i h => absurd rfl h⟩
    · rw [if_neg h3]; exact ⟨by omega, by omega, by omega, hs, hw, fun i => by omega, fun i h => absurd rfl h⟩
  rw [if_neg h2]
  have plain : Step ttl en y ⟨y.c, a, b, d, y.dl⟩ := ⟨by show y.c ≤ y.c; omega, by show y.c ≤ _; omega, by show y.t ≤ a; omega, hb.1, hd.1, fun i => by show y.dl i ≤ y.dl i; omega, fun i h => absurd rfl h⟩
  by_cases h4 : y.t ≠ 0 ∧ y.wl ≠ 0 ∧ y.wl < d
  · rw [if_pos h4]
    by_cases h5 : y.wl < bk
    · rw [if_pos h5]
      refine ⟨by show y.c ≤ y.c; omega, by show y.c ≤ _; omega, by show y.t ≤ a; omega, hb.1, hd.1, fun i => newDl_le _ _ _ _ _, fun i h => ?_⟩
      obtain ⟨g1, g2⟩ := newDl_ch h
      exact ⟨g1, rfl, g2⟩
    · rw [if_neg h5]
      by_cases h6 : 300 < IntKind.u64.wrap (d - y.wl)
      · rw [if_pos h6]
        have e1 : IntKind.u64.wrap (d - y.wl) = d - y.wl := by simp only [wrap_eq]; omega
        rw [e1] at h6 ⊢
        have e : IntKind.u64.wrap (y.c + IntKind.u64.wrap (d - y.wl - 300)) = y.c + (d - y.wl - 300) := by simp only [wrap_eq]; omega
        rw [e]
        exact ⟨by show y.c ≤ y.c + (d - y.wl - 300); omega, by show y.c + (d - y.wl - 300) ≤ _; omega, by show y.t ≤ a; omega, hb.1, hd.1, fun i => by show y.dl i ≤ y.dl i; omega, fun i h => absurd rfl h⟩
      · rw [if_neg h6]; exact plain
  · rw [if_neg h4]; exact plain

theorem run_step {ttl : Nat → Int} {en : Nat → Bool} {x : St} {tm sn wa ba : Nat → Int} {m : Nat} (hm : m ≤ 4096) (hc : 0 ≤ x.c ∧ x.c ≤ 4611686018427387904) (hs : 0 ≤ x.s) (hw : 0 ≤ x.wl)
    (h : ∀ i, i < m → (0 ≤ sn i ∧ sn i ≤ 281474976710656) ∧ (0 ≤ wa i ∧ wa i ≤ 281474976710656)) (k : Nat) (hk : k < m) :
    Step ttl en (run ttl en x tm sn wa ba k) (run ttl en x tm sn wa ba (k + 1)) := by
  have key : ∀ k, k ≤ m → (0 ≤ (run ttl en x tm sn wa ba k).c ∧ (run ttl en x tm sn wa ba k).c ≤ 4611686018427387904 + 281474976710656 * (k : Int)) ∧ 0 ≤ (run ttl en x tm sn wa ba k).s ∧ 0 ≤ (run ttl en x tm sn wa ba k).wl := by
    intro k
    induction k with
    | zero => intro _; exact ⟨by simp only [run]; omega, hs, hw⟩
    | succ k ih =>
      intro hk
      obtain ⟨h1, h2, h3⟩ := ih (by omega)
      have st := adv_step (ttl := ttl) (en := en) (y := run ttl en x tm sn wa ba k) (a := tm k) (b := sn k) (d := wa k) (bk := ba k) (by omega) h2 h3 (h k (by omega)).1 (h k (by omega)).2
      have a1 := st.c
      have a2 := st.c2
      exact ⟨by simp only [run]; omega, st.s, st.wl⟩
  obtain ⟨h1, h2, h3⟩ := key k (by omega)
  exact adv_step (by omega) h2 h3 (h k hk).1 (h k hk).2

end Go.Proofs.Qxb6606085a
