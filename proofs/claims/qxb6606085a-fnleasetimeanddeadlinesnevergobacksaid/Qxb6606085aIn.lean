import Derived.Test.Qxb6606085aLaw4
import Derived.Deep.RegionHeld
namespace Go.Proofs.Qxb6606085a
open Go.RowKit Go.Maps
set_option linter.unusedVariables false

/-- A slice that came in, its address written out. -/
def In2 (w : World) (sp : Option Addr) (n : Nat) (f : Nat → Int) : Prop := 0 < n → ∃ b off, sp = some ⟨b, off, .none⟩ ∧ b < w.heap.size ∧ ∀ i, i < n → w.cell? ⟨b, off + i, .none⟩ = some (.int .u64 (f i))

theorem In.two {w : World} {sp : Option Addr} {n : Nat} {f : Nat → Int} (h : In w sp n (fun i => .int .u64 (f i))) : In2 w sp n f := by
  intro h0
  obtain ⟨ad, rfl, hc⟩ := h h0
  obtain ⟨b, off, spot⟩ := ad
  have hspot : spot = .none := by simpa [Addr.add] using World.cell?_spot (hc 0 h0)
  subst hspot
  have h1 : ∀ i, i < n → w.cell? ⟨b, off + i, .none⟩ = some (.int .u64 (f i)) := fun i hi => by rw [← Go.WideShapes.add_plain]; exact hc i hi
  exact ⟨b, off, rfl, block_lt_of_cell (h1 0 h0), h1⟩

theorem In2.keep {w w' : World} {N : Nat} {sl : Option Addr} {n : Nat} {f : Nat → Int} (h : In2 w sl n f) (hN : w.heap.size ≤ N) (hu : Below N w w') : In2 w' sl n f := by
  intro h0
  obtain ⟨b, off, e, hb, hc⟩ := h h0
  exact ⟨b, off, e, Nat.lt_of_lt_of_le hb hu.size, fun i hi => by rw [hu.cell (p := ⟨b, off + i, .none⟩) (Nat.lt_of_lt_of_le hb hN)]; exact hc i hi⟩

theorem Sl.keepB {w w' : World} {sl : Option Addr} {n : Nat} {f : Nat → Value} (h : Sl w sl n f) (hu : Below w.heap.size w w') : Sl w' sl n f := by
  intro h0
  obtain ⟨P, e, hP, hc⟩ := h h0
  exact ⟨P, e, Nat.lt_of_lt_of_le hP hu.size, fun i hi => by rw [hu.cell (p := ⟨P, i, .none⟩) hP]; exact hc i hi⟩

end Go.Proofs.Qxb6606085a
