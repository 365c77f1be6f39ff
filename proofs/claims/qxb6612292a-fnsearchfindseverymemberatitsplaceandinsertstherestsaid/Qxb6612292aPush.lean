import Derived.Test.Qxb6612292aConv
import Derived.Deep.DeepAppendRoom
namespace Go.Proofs.Qxb6612292a
open Go.RowKit
set_option linter.unusedVariables false
set_option linter.unusedSimpArgs false

/-- The cells of the first k dots. -/
def xsOf (D : Nat → Dt) (k : Nat) : List Value := (List.range (k * 2)).map (cellOf D)
theorem xsOf_succ (D : Nat → Dt) (k : Nat) : xsOf D k ++ [.string (D k).1, .int .u64 (D k).2] = xsOf D (k + 1) := by
  unfold xsOf
  rw [show (k + 1) * 2 = k * 2 + 1 + 1 from by omega, List.range_succ, List.range_succ]
  simp [cellOf_0, cellOf_1]
theorem xsOf_len (D : Nat → Dt) (k : Nat) : (xsOf D k).length = k * 2 := by simp [xsOf]
theorem xsOf_get (D : Nat → Dt) {k j : Nat} (h : j < k * 2) : (xsOf D k)[j]? = some (cellOf D j) := by simp [xsOf, h]

/-- 'ins' under way: k of the dots of E lie in block g, which has room for n + 1. -/
structure InsAt (w4 wr : World) (g n k : Nat) (E : Nat → Dt) : Prop where
  bl : Below g w4 wr
  own : wr.ownsRow g 30 2 (.slice (some ⟨g, 0, none⟩) k (n + 1)) k (xsOf E k)
  sz : g < wr.heap.size

theorem InsAt.rw {w4 wr : World} {g n k : Nat} {E : Nat → Dt} (h : InsAt w4 wr g n k E) : Rw wr (some ⟨g, 0, none⟩) k E := by
  intro h0
  rcases h.own.2 with ⟨hv, hk⟩ | ⟨g', cap, cur, hv, hg, hh, hnc, hcm, hcs, htake⟩
  · cases hv
  · cases hv
    have get : ∀ j, j < k * 2 → wr.cell? ⟨g, j, none⟩ = some (cellOf E j) := fun j hj => by
      rw [cell_of_row wr g j cur 30 (0, 0) hh]
      have e := xsOf_get E hj
      rw [← htake, List.getElem?_take_of_lt hj] at e
      simpa using e
    refine ⟨g, 0, rfl, h.sz, fun i hi => ⟨?_, ?_⟩⟩
    · rw [show 0 + i * 2 = i * 2 from by omega, get _ (by omega), cellOf_0]
    · rw [show 0 + i * 2 + 1 = i * 2 + 1 from by omega, get _ (by omega), cellOf_1]

theorem make22 (n : Nat) (h : n ≤ 2 ^ 20) (w : World) : (Instr.makeSlice 22 (.int .i64 0) (.int .i64 ((n : Int) + 1))).run Try.prog w = .ok (.slice (some ⟨w.heap.size, 0, none⟩) 0 (n + 1)) (w.alloc (.cells (rowV ((n + 1) * 2) zeroC) 30)) := by
  obtain ⟨i0, hi, hz0, hz1, hz2⟩ := info_parts (show (Try.prog.info? 30).map (fun i => (i.zero, i.size, i.bytes)) = some (some (.agg #[.string ByteArray.empty, .int .u64 0]), 2, 24) by kernel_rfl)
  have := run_make (P := Try.prog) w 22 30 i0 (.agg #[.string ByteArray.empty, .int .u64 0]) Try.underlying22 hi hz0 .i64 .i64 0 ((n : Int) + 1) (by omega) (by omega) (by rw [hz2]; omega) (by omega)
  rw [this, hz1, made2]
  simp

theorem InsAt.start (w4 : World) (n : Nat) (hn : n ≤ 2 ^ 20) (E : Nat → Dt) : InsAt w4 (w4.alloc (.cells (rowV ((n + 1) * 2) zeroC) 30)) w4.heap.size n 0 E :=
  ⟨(Below.refl _ _).alloc (Nat.le_refl _) _, World.ownsRow_made w4 (rowV ((n + 1) * 2) zeroC) (n + 1) (Nat.le_refl _) (by unfold maxLen; omega) (by rw [rowV_size]), by simp⟩

/-- 'ins = append(ins, ..)' AT THE OPERATION: there is room. -/
theorem wpList_push {w4 wr : World} {ops : Array Oper} {rest : List Oper} {o : Oper} {a : Act} {Q : Exit → Act → World → Prop} (hgd : o.guard = none) (s x : Operand)
    (ho : o.op = .call { callee := .builtin .append, args := #[s, x], argTypes := #[22, 22] }) {g n k : Nat} {E : Nat → Dt} (hI : InsAt w4 wr g n k E) (hk : k ≤ n) (v0 : ByteArray) (v1 : Int) (hv : E k = (v0, v1))
    (hs : a.eval s = .slice (some ⟨g, 0, none⟩) k (n + 1)) (hx : a.eval x = .slice (some ⟨wr.heap.size, 0, none⟩) 1 1)
    (h : ∀ w', InsAt w4 w' g n (k + 1) E → wpList Try.prog ops Q rest (a.put o.dst (.slice (some ⟨g, 0, none⟩) (k + 1) (n + 1))) w') :
    wpList Try.prog ops Q (o :: rest) a (wr.alloc (.cells #[.string v0, .int .u64 v1] 30)) := by
  obtain ⟨i0, hi, hz0, hz1, hz2⟩ := info_parts (show (Try.prog.info? 30).map (fun i => (i.zero, i.size, i.bytes)) = some (some (.agg #[.string ByteArray.empty, .int .u64 0]), 2, 24) by kernel_rfl)
  have hsz := hI.sz
  have hown := hI.own.alloc (.cells #[.string v0, .int .u64 v1] 30)
  have hnew := heap_alloc_new wr (.cells #[.string v0, .int .u64 v1] 30)
  refine wpList_append_own_spare _ hgd s x 22 ho g 30 i0 2 Try.underlying22 hi hz1 g k (n + 1) (xsOf E k) hs hown ⟨wr.heap.size, 0, none⟩ 1 1 [.string v0, .int .u64 v1] hx rfl ?_ ?_ (by omega) ?_
  · intro j u hj
    rw [Go.WideShapes.add_plain, cell_of_row _ _ _ _ 30 (0, 0) hnew]
    match j, hj with
    | 0, hj => simpa using hj
    | 1, hj => simpa using hj
  · intro u hu
    simp at hu
    rcases hu with rfl | rfl <;> rfl
  · intro w' hown' hgr
    refine h w' ⟨?_, ?_, ?_⟩
    · refine hI.bl.trans (((Below.refl g wr).alloc (by omega) (.cells #[.string v0, .int .u64 v1] 30)).grown hgr (by simp; omega) (fun j hj => by cases hj; exact Nat.le_refl _))
    · rw [← xsOf_succ, hv]; exact hown'
    · have := hgr.size; simp at this; omega

/-- search finds a dot of the set at its own place. -/
theorem zz_own (sl : Option Addr) (n cap : Nat) (D : Nat → Dt) (w : World) (hn : n ≤ 2 ^ 20) (hR : Rw w sl n D) (hS : Sorted D n) (k : Nat) (hk : k < n) :
    Calls Try.prog 10 #[.slice sl n cap, .agg #[.string (D k).1, .int .u64 (D k).2]] w fun e w' => e = .returned (.tuple #[.int .i64 (k : Int), .bool true]) ∧ Below w.heap.size w w' := by
  refine (zz_any sl n cap D (D k) w hn hR hS).mono ?_
  rintro e w' ⟨r, hr, rfl, hb⟩
  obtain rfl : k = r := (Rank.own hS hk).uniq hr
  refine ⟨?_, hb⟩
  have : cmpD (D k) (D k) = 0 := (cmpD_zero _ _).2 ⟨rfl, rfl⟩
  simp [hk, this]
end Go.Proofs.Qxb6612292a
