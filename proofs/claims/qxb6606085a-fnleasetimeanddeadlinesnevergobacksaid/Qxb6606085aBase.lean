import Derived.Test.Qxb6606085aRows
import Derived.WalkKit
import Derived.WalkSpells
import Derived.WalkLawsBesides
import Derived.Maps.RangeWalk
import Derived.Deep.Draws
namespace Go.Proofs.Qxb6606085a
open Go.RowKit Go.Maps

/-- w' is w but for the blocks of S (and new blocks). -/
structure Upto (S : Nat → Prop) (w w' : World) : Prop where
  os : w'.os = w.os
  tape : w'.tape = w.tape
  output : w'.output = w.output
  size : w.heap.size ≤ w'.heap.size
  block : ∀ k, k < w.heap.size → ¬ S k → w'.heap[k]? = w.heap[k]?

theorem Upto.refl (S : Nat → Prop) (w : World) : Upto S w w := ⟨rfl, rfl, rfl, Nat.le_refl _, fun _ _ _ => rfl⟩
theorem Upto.trans {S : Nat → Prop} {a b c : World} (h : Upto S a b) (k : Upto S b c) : Upto S a c :=
  ⟨k.os.trans h.os, k.tape.trans h.tape, k.output.trans h.output, Nat.le_trans h.size k.size, fun i hi hs => (k.block i (Nat.lt_of_lt_of_le hi h.size) hs).trans (h.block i hi hs)⟩
/-- two steps, the second of which may also write what is new since the first. -/
theorem Upto.andThen {S S' : Nat → Prop} {a b c : World} (h : Upto S a b) (k : Upto S' b c) (hs : ∀ i, S' i → a.heap.size ≤ i ∨ S i) : Upto S a c :=
  ⟨k.os.trans h.os, k.tape.trans h.tape, k.output.trans h.output, Nat.le_trans h.size k.size, fun i hi hn =>
    (k.block i (Nat.lt_of_lt_of_le hi h.size) (fun e => by rcases hs i e with h1 | h1; omega; exact hn h1)).trans (h.block i hi hn)⟩
theorem Upto.mono {S S' : Nat → Prop} {a b : World} (h : Upto S a b) (hs : ∀ i, S i → S' i) : Upto S' a b :=
  ⟨h.os, h.tape, h.output, h.size, fun i hi hn => h.block i hi (fun e => hn (hs i e))⟩
theorem Upto.alloc {S : Nat → Prop} {a w : World} (h : Upto S a w) (o : Obj) : Upto S a (w.alloc o) :=
  h.trans ⟨rfl, rfl, rfl, by simp, fun k hk _ => Below.heap_alloc _ _ _ hk⟩
theorem Upto.drewN {S : Nat → Prop} {a w : World} (h : Upto S a w) (n : Nat) : Upto S a (w.drewN n) := ⟨h.os, h.tape, h.output, h.size, h.block⟩
theorem Upto.drew {S : Nat → Prop} {a w : World} (h : Upto S a w) : Upto S a w.drew := ⟨h.os, h.tape, h.output, h.size, h.block⟩
theorem Upto.setCell {S : Nat → Prop} {a w : World} (h : Upto S a w) {p : Addr} (hp : a.heap.size ≤ p.block ∨ S p.block) (u : Value) : Upto S a (w.setCell p u) :=
  h.andThen (S' := fun k => k = p.block) ⟨rfl, rfl, rfl, by simp [World.setCell], fun k _ hn => Below.heap_setCell _ _ _ _ hn⟩ (fun i e => by rw [e]; exact hp)
theorem Upto.grown {S : Nat → Prop} {a w w' : World} {row : Option Nat} (h : Upto S a w) (hg : w.grownBy w' row) (hr : ∀ k, row = some k → a.heap.size ≤ k ∨ S k) : Upto S a w' :=
  h.andThen (S' := fun k => some k = row) ⟨hg.os, hg.tape, hg.output, hg.size, fun k hk hn => hg.block k hk hn⟩ (fun i e => hr i e.symm)
theorem Upto.below {S : Nat → Prop} {a w : World} (h : Upto S a w) {N : Nat} (hN : N ≤ a.heap.size) (hs : ∀ k, S k → N ≤ k) : Below N a w :=
  ⟨h.os, h.tape, h.output, h.size, fun k hk => h.block k (Nat.lt_of_lt_of_le hk hN) (fun e => by have := hs k e; omega)⟩
theorem Upto.cell {S : Nat → Prop} {a w : World} (h : Upto S a w) {p : Addr} (hp : p.block < a.heap.size) (hs : ¬ S p.block) : w.cell? p = a.cell? p := World.cell?_of_block (h.block p.block hp hs)

/-- A pointer to the head of a block, by the block's number. -/
def ptrElem : Value → Option (DataW Unit × List MemPlace)
  | .pointer (some ⟨b, 0, .none⟩) => some (.lit (.int .u64 (b : Int)), [])
  | .pointer .none => some (.nil, [])
  | _ => .none

theorem ptrElem_mk (b : Nat) : ptrElem (.pointer (some ⟨b, 0, .none⟩)) = some (.lit (.int .u64 (b : Int)), []) := rfl
theorem ptrElem_nil : ptrElem (.pointer .none) = some (.nil, []) := rfl
theorem ptrElem_inv {v : Value} {b : Nat} {ps : List MemPlace} (h : ptrElem v = some (.lit (.int .u64 (b : Int)), ps)) : v = .pointer (some ⟨b, 0, .none⟩) := by
  unfold ptrElem at h
  split at h
  · simp at h; rw [Int.ofNat.inj h.1]
  · simp at h
  · simp at h

/-- The map's datum: lease i (key i) lies in block L + i, i < n. -/
structure Dat (L n : Nat) (D : DataW Unit) : Prop where
  sz : Maps.size D = n
  look : ∀ i, i < n → ∀ zd, D.atKey (.int .u64 (i : Int)) zd = .lit (.int .u64 ((L + i : Nat) : Int))
  keys : ∀ kl, Maps.has D kl = true → ∃ i, i < n ∧ kl = .int .u64 (i : Int)

theorem Dat.start (L : Nat) : Dat L 0 (.map []) := ⟨rfl, fun i hi => by omega, fun kl h => by simp [Maps.has] at h⟩

theorem Dat.put {L n : Nat} {D : DataW Unit} (h : Dat L n D) (hT : Tidy D) : Dat L (n + 1) (D.put (.int .u64 (n : Int)) (.lit (.int .u64 ((L + n : Nat) : Int)))) := by
  refine ⟨?_, ?_, ?_⟩
  · rw [Maps.size_put hT, h.sz]
    cases hh : Maps.has D (.int .u64 (n : Int))
    · simp
    · obtain ⟨i, hi, e⟩ := h.keys _ hh
      simp at e; omega
  · intro i hi zd
    by_cases e : i = n
    · subst e; exact Maps.atKey_put_same (k := .int .u64 _) hT.isMap trivial _ _
    · rw [Maps.atKey_put_other (by simp; omega)]; exact h.look i (by omega) zd
  · intro kl hk
    by_cases e : kl = .int .u64 (n : Int)
    · exact ⟨n, by omega, e⟩
    · rw [Maps.has_put_other e] at hk
      obtain ⟨i, hi, e2⟩ := h.keys _ hk
      exact ⟨i, by omega, e2⟩

/-- THE TABLE in block B, its map in block M, its n leases in blocks L .. L + n - 1. -/
structure Tab (w : World) (M B L n : Nat) (c t s wl : Int) (ttl dl : Nat → Int) (en : Nat → Bool) : Prop where
  mb : M < B
  bl : B < L
  sz : L + n ≤ w.heap.size
  tb : w.heap[B]? = some (.cells #[.int .u64 c, .int .u64 t, .int .u64 s, .int .u64 wl, .int .u64 0, .map (some M), .map .none, .int .i64 0, .int .i64 0] 44)
  ls : ∀ i, i < n → w.heap[L + i]? = some (.cells #[.int .u64 (ttl i), .int .u64 (dl i), .map .none, .bool (en i)] 48)
  own : ∃ D, w.ownsMap Try.prog 22 ptrElem M n D ∧ Dat L n D

def Blk (B L n : Nat) (k : Nat) : Prop := k = B ∨ (L ≤ k ∧ k < L + n)

section
variable {w : World} {M B L n : Nat} {c t s wl : Int} {ttl dl : Nat → Int} {en : Nat → Bool}

theorem Tab.lt (T : Tab w M B L n c t s wl ttl dl en) : B < w.heap.size := by have := T.bl; have := T.sz; have := (Array.getElem?_eq_some_iff.1 T.tb).1; omega
theorem Tab.cell (T : Tab w M B L n c t s wl ttl dl en) (j : Nat) : w.cell? ⟨B, j, .none⟩ = #[Value.int .u64 c, .int .u64 t, .int .u64 s, .int .u64 wl, .int .u64 0, .map (some M), .map .none, .int .i64 0, .int .i64 0][j]? := cell_of_row w B j _ 44 (0, 0) T.tb
theorem Tab.froz (T : Tab w M B L n c t s wl ttl dl en) (j : Nat) : w.frozen? ⟨B, j, .none⟩ = false := frozen_of_row w B j _ 44 T.tb
theorem Tab.lcell (T : Tab w M B L n c t s wl ttl dl en) {i : Nat} (hi : i < n) (j : Nat) : w.cell? ⟨L + i, j, .none⟩ = #[Value.int .u64 (ttl i), .int .u64 (dl i), .map .none, .bool (en i)][j]? := cell_of_row w (L + i) j _ 48 (0, 0) (T.ls i hi)
theorem Tab.lfroz (T : Tab w M B L n c t s wl ttl dl en) {i : Nat} (hi : i < n) (j : Nat) : w.frozen? ⟨L + i, j, .none⟩ = false := frozen_of_row w (L + i) j _ 48 (T.ls i hi)

theorem Tab.facts (T : Tab w M B L n c t s wl ttl dl en) : B < w.heap.size ∧ w.cell? ⟨B, 0, .none⟩ = some (.int .u64 c) ∧ w.cell? ⟨B, 1, .none⟩ = some (.int .u64 t) ∧ w.cell? ⟨B, 2, .none⟩ = some (.int .u64 s) ∧ w.cell? ⟨B, 3, .none⟩ = some (.int .u64 wl) ∧ w.cell? ⟨B, 4, .none⟩ = some (.int .u64 0) ∧ w.cell? ⟨B, 5, .none⟩ = some (.map (some M)) ∧
    w.frozen? ⟨B, 0, .none⟩ = false ∧ w.frozen? ⟨B, 1, .none⟩ = false ∧ w.frozen? ⟨B, 2, .none⟩ = false ∧ w.frozen? ⟨B, 3, .none⟩ = false ∧ w.frozen? ⟨B, 4, .none⟩ = false :=
  ⟨T.lt, T.cell 0, T.cell 1, T.cell 2, T.cell 3, T.cell 4, T.cell 5, T.froz 0, T.froz 1, T.froz 2, T.froz 3, T.froz 4⟩

/-- Nothing of the table is touched. -/
theorem Tab.kept (T : Tab w M B L n c t s wl ttl dl en) {w' : World} {S : Nat → Prop} (h : Upto S w w') (hB : ¬ S B) (hM : ¬ S M) (hL : ∀ i, i < n → ¬ S (L + i)) : Tab w' M B L n c t s wl ttl dl en := by
  obtain ⟨D, ho, hD⟩ := T.own
  have hs := T.sz
  refine ⟨T.mb, T.bl, Nat.le_trans T.sz h.size, (h.block B T.lt hB).trans T.tb, fun i hi => (h.block _ (by omega) (hL i hi)).trans (T.ls i hi), D, ?_, hD⟩
  have hlt := ho.lt
  obtain ⟨es, clock, hb, r⟩ := ho
  exact ⟨es, clock, (h.block M hlt hM).trans hb, r⟩

theorem Tab.calm (T : Tab w M B L n c t s wl ttl dl en) {w' : World} (h : Upto (fun _ => False) w w') : Tab w' M B L n c t s wl ttl dl en :=
  T.kept h (fun h => h) (fun h => h) (fun _ _ h => h)

/-- The table's own cells are written anew; nothing else of it. -/
theorem Tab.turn (T : Tab w M B L n c t s wl ttl dl en) {w' : World} {S : Nat → Prop} (h : Upto S w w') (hM : ¬ S M) (hL : ∀ i, i < n → ¬ S (L + i)) {c' t' s' wl' : Int}
    (htb : w'.heap[B]? = some (.cells #[.int .u64 c', .int .u64 t', .int .u64 s', .int .u64 wl', .int .u64 0, .map (some M), .map .none, .int .i64 0, .int .i64 0] 44)) : Tab w' M B L n c' t' s' wl' ttl dl en := by
  obtain ⟨D, ho, hD⟩ := T.own
  have hs := T.sz
  refine ⟨T.mb, T.bl, Nat.le_trans T.sz h.size, htb, fun i hi => (h.block _ (by omega) (hL i hi)).trans (T.ls i hi), D, ?_, hD⟩
  have hlt := ho.lt
  obtain ⟨es, clock, hb, r⟩ := ho
  exact ⟨es, clock, (h.block M hlt hM).trans hb, r⟩
end

theorem law22 : Keyed Try.prog 22 := int_keyed Try.underlying22
theorem zero45 (w : World) : (zeroValue 45).run Try.prog w = .ok (.pointer .none) w := by kernel_rfl
theorem wf_nat {i : Nat} (h : i < 2 ^ 63) : (Lit.int .u64 (i : Int)).wf = true := by
  simp [Lit.wf, IntKind.min, IntKind.max, IntKind.bits, IntKind.signed]; omega

theorem wrap_nat {k : Nat} (h : k < 2 ^ 63) : IntKind.u64.wrap (k : Int) = (k : Int) := by
  simp [IntKind.wrap, IntKind.bits, IntKind.signed]; omega

/-- 't.held[i]', i a lease: THE WALK's LAW. -/
theorem wpList_lookup_tab {w : World} {ops : Array Oper} {rest : List Oper} {o : Oper} {a : Act} {Q : Exit → Act → World → Prop}
    (hg : o.guard = .none) (m x : Operand) (hop : o.op = Op.lookup 39 m x false) {M L n : Nat} {D : DataW Unit}
    (hm : a.eval m = .map (some M)) (hown : w.ownsMap Try.prog 22 ptrElem M n D) (hD : Dat L n D) (i : Nat) (hi : i < n) (hi2 : i < 2 ^ 63) (hx : a.eval x = .int .u64 (i : Int))
    (hK : wpList Try.prog ops Q rest (a.put o.dst (.pointer (some ⟨L + i, 0, .none⟩))) w) :
    wpList Try.prog ops Q (o :: rest) a w := by
  refine wpList_plain hg fun K' hK' => ?_
  obtain ⟨v, ps, hrun, hv⟩ := hown.lookup law22 Try.underlying39 (zero45 w) ptrElem_nil (keyOf_int_mk Try.underlying22 (wf_nat hi2))
  rw [hD.look i hi] at hv
  have e := ptrElem_inv hv
  subst e
  unfold Oper.wp
  simp [execOp, hop, hm, hx, hrun, Result.andThen]
  exact hK' _ _ hK

/-- THE STEP of 'for _, l := range t.held'. -/
theorem wpList_next_tab {w : World} {ops : Array Oper} {rest : List Oper} {o : Oper} {a : Act} {Q : Exit → Act → World → Prop}
    (hg : o.guard = .none) (it : Operand) (hop : o.op = Op.next it false) (M r L n m : Nat) (D : DataW Unit) (left : Lit → Bool) (cnt : Nat)
    (hit : a.eval it = .pointer (some ⟨r, 0, .none⟩)) (h : w.ranges Try.prog 22 ptrElem M r m D left cnt) (hD : Dat L n D) (hl : ∀ kl, left kl = true → Maps.has D kl = true)
    (hDone : (∀ kl, left kl = false) → wpList Try.prog ops Q rest (a.put o.dst (.tuple #[.bool false])) w)
    (hMore : ∀ (i : Nat) (w' : World) (cnt' : Nat), i < n → left (.int .u64 (i : Int)) = true → w'.ranges Try.prog 22 ptrElem M r m D (fun z => left z && !z.sameKey (.int .u64 (i : Int))) cnt' → cnt' < cnt →
      w.grownBy w' (some r) → w'.heap.size = w.heap.size → (Instr.entry (.pointer (some ⟨r, 0, .none⟩))).run Try.prog w' = .ok (.tuple #[.int .u64 (i : Int), .pointer (some ⟨L + i, 0, .none⟩)]) w' → wpList Try.prog ops Q rest (a.put o.dst (.tuple #[.bool true, .int .u64 (i : Int), .pointer (some ⟨L + i, 0, .none⟩)])) w') :
    wpList Try.prog ops Q (o :: rest) a w := by
  refine wpList_plain hg fun K' hK' => ?_
  unfold Oper.wp
  rcases h.next law22 o.type with ⟨h0, hl0, hrun⟩ | ⟨key, v, kl, y, w', cnt', hkey, hlk, hv, hat, hrun, hrg, hlt, hgr, hsz, hen⟩
  · simp [execOp, hop, hit, hrun, Result.andThen]
    exact hK' _ _ (hDone hl0)
  · obtain ⟨x, rfl, rfl, hwx⟩ := Maps.keyOf_int_inv Try.underlying22 hkey
    obtain ⟨i, hi, e⟩ := hD.keys _ (hl _ hlk)
    cases e
    have hy : y.1 = .lit (.int .u64 ((L + i : Nat) : Int)) := by rw [← hat .nil]; exact hD.look i hi _
    obtain ⟨y1, y2⟩ := y
    simp only at hy
    subst hy
    have e := ptrElem_inv hv
    subst e
    simp [execOp, hop, hit, hrun, Result.andThen]
    exact hK' _ _ (hMore i w' cnt' hi hlk hrg hlt hgr hsz hen)

/-- The world behind 't.last = at'. -/
def setLast (w : World) (B : Nat) (a b d : Int) : World :=
  (((w.setCell ⟨B, 1, .none⟩ (.int .u64 a)).setCell ⟨B, 2, .none⟩ (.int .u64 b)).setCell ⟨B, 3, .none⟩ (.int .u64 d)).setCell ⟨B, 4, .none⟩ (.int .u64 0)

theorem setLast_up {S : Nat → Prop} {x w : World} (h : Upto S x w) {B : Nat} (hB : S B) (a b d : Int) : Upto S x (setLast w B a b d) := by
  unfold setLast
  exact (((h.setCell (p := ⟨B, 1, .none⟩) (Or.inr hB) _).setCell (p := ⟨B, 2, .none⟩) (Or.inr hB) _).setCell (p := ⟨B, 3, .none⟩) (Or.inr hB) _).setCell (p := ⟨B, 4, .none⟩) (Or.inr hB) _

theorem setLast_tb {w : World} {B M : Nat} {c t s wl : Int} (a b d : Int) (h : w.heap[B]? = some (.cells #[.int .u64 c, .int .u64 t, .int .u64 s, .int .u64 wl, .int .u64 0, .map (some M), .map .none, .int .i64 0, .int .i64 0] 44)) :
    (setLast w B a b d).heap[B]? = some (.cells #[.int .u64 c, .int .u64 a, .int .u64 b, .int .u64 d, .int .u64 0, .map (some M), .map .none, .int .i64 0, .int .i64 0] 44) := by
  have e1 := heap_setCell_same w B 1 _ 44 (.int .u64 a) h
  have e2 := heap_setCell_same _ B 2 _ 44 (.int .u64 b) e1
  have e3 := heap_setCell_same _ B 3 _ 44 (.int .u64 d) e2
  have e4 := heap_setCell_same _ B 4 _ 44 (.int .u64 0) e3
  exact e4

def newDl (c : Int) (ttl dl : Nat → Int) (en : Nat → Bool) (i : Nat) : Int :=
  if en i then dl i else if dl i < IntKind.u64.wrap (c + IntKind.u64.wrap (ttl i * 1000)) then IntKind.u64.wrap (c + IntKind.u64.wrap (ttl i * 1000)) else dl i

/-- THE PLAIN FUNCTION: the table's clock, last LeaderTime and deadlines. -/
structure St where
  c : Int
  t : Int
  s : Int
  wl : Int
  dl : Nat → Int

def adv (ttl : Nat → Int) (en : Nat → Bool) (x : St) (a b d bk : Int) : St :=
  if a < x.t then x
  else if a = x.t then (if x.s < b then ⟨IntKind.u64.wrap (x.c + IntKind.u64.wrap (b - x.s)), a, b, d, x.dl⟩ else x)
  else if x.t ≠ 0 ∧ x.wl ≠ 0 ∧ x.wl < d then
    (if x.wl < bk then ⟨x.c, a, b, d, newDl x.c ttl x.dl en⟩
     else if 300 < IntKind.u64.wrap (d - x.wl) then ⟨IntKind.u64.wrap (x.c + IntKind.u64.wrap (IntKind.u64.wrap (d - x.wl) - 300)), a, b, d, x.dl⟩
     else ⟨x.c, a, b, d, x.dl⟩)
  else ⟨x.c, a, b, d, x.dl⟩

abbrev TabS (w : World) (M B L n : Nat) (x : St) (ttl : Nat → Int) (en : Nat → Bool) : Prop := Tab w M B L n x.c x.t x.s x.wl ttl x.dl en

end Go.Proofs.Qxb6606085a
