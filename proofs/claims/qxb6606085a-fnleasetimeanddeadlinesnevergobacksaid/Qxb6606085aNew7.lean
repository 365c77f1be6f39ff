import Derived.Test.Qxb6606085aGet
import Derived.Test.Qxb6606085aAdv
namespace Go.Proofs.Qxb6606085a
open Go.RowKit Go.Maps
set_option linter.unusedVariables false

theorem Sl.keep {w w' : World} {sl : Option Addr} {n : Nat} {f : Nat → Value} (h : Sl w sl n f) (hu : Upto (fun _ => False) w w') : Sl w' sl n f := by
  intro h0
  obtain ⟨P, e, hP, hc⟩ := h h0
  exact ⟨P, e, Nat.lt_of_lt_of_le hP hu.size, fun i hi => by rw [hu.cell (p := ⟨P, i, .none⟩) hP (fun h => h)]; exact hc i hi⟩

/-- A lease more. -/
theorem tab_more {wr : World} {M B L k : Nat} {c t s wl : Int} {ttl dl : Nat → Int} {en : Nat → Bool} (T : Tab wr M B L k c t s wl ttl dl en) (hk : k < 2 ^ 20) (hs : wr.heap.size = L + k) :
    ∃ w2, (Instr.mapUpdate 39 (.map (some M)) (.int .u64 (k : Int)) (.pointer (some ⟨wr.heap.size, 0, .none⟩))).run Try.prog (wr.alloc (.cells #[.int .u64 (ttl k), .int .u64 (dl k), .map .none, .bool (en k)] 48)).drew = .ok () w2 ∧
      Upto (fun i => i = M) wr w2 ∧ w2.heap.size = L + (k + 1) ∧ Tab w2 M B L (k + 1) c t s wl ttl dl en := by
  obtain ⟨D, hown, hD⟩ := T.own
  have hown1 : (wr.alloc (.cells #[.int .u64 (ttl k), .int .u64 (dl k), .map .none, .bool (en k)] 48)).drew.ownsMap Try.prog 22 ptrElem M k D := hown.alloc _
  have hml : k < maxLen := by unfold maxLen; omega
  obtain ⟨w2, hrun, ho2, ht2⟩ := hown1.store law22 Try.underlying39 hml (keyOf_int_mk Try.underlying22 (wf_nat (i := k) (by omega))) (ptrElem_mk wr.heap.size)
  have hg := ht2.grown
  have hmb := T.mb
  have hbl := T.bl
  have hsz2 : w2.heap.size = wr.heap.size + 1 := by
    obtain ⟨es, clock, es', clock', _, rfl⟩ := ht2
    simp [ChangeMaps.setBlock]
  have hu : Upto (fun i => i = M) wr w2 := (((Upto.refl (fun i => i = M) wr).alloc (.cells #[.int .u64 (ttl k), .int .u64 (dl k), .map .none, .bool (en k)] 48)).drew).grown hg (fun j hj => by cases hj; right; rfl)
  refine ⟨w2, hrun, hu, by omega, hmb, hbl, by omega, (hu.block B T.lt (by show B ≠ M; omega)).trans T.tb, fun i hi => ?_, _, ho2, ?_⟩
  · by_cases e : i = k
    · subst e
      rw [hg.block (L + i) (by simp; omega) (by simp; omega), ← hs]
      exact heap_alloc_new wr _
    · exact (hu.block (L + i) (by omega) (by show L + i ≠ M; omega)).trans (T.ls i (by omega))
  · rw [hs]; exact hD.put (hown1.tidy law22)

theorem tab_start (w : World) (c t s wl : Int) (ttl dl : Nat → Int) (en : Nat → Bool) :
    Tab (((w.alloc (.cells #[.int .u64 t, .int .u64 s, .int .u64 wl, .int .u64 0] 29)).alloc (.map #[] 0)).alloc
      (.cells #[.int .u64 c, .int .u64 t, .int .u64 s, .int .u64 wl, .int .u64 0, .map (some (w.heap.size + 1)), .map .none, .int .i64 0, .int .i64 0] 44)) (w.heap.size + 1) (w.heap.size + 2) (w.heap.size + 3) 0 c t s wl ttl dl en := by
  refine ⟨by omega, by omega, by simp, ?_, fun i hi => by omega, .map [], ?_, Dat.start _⟩
  · have e : w.heap.size + 2 = ((w.alloc (.cells #[.int .u64 t, .int .u64 s, .int .u64 wl, .int .u64 0] 29)).alloc (.map #[] 0)).heap.size := by simp
    rw [e]; exact heap_alloc_new _ _
  · have e : w.heap.size + 1 = (w.alloc (.cells #[.int .u64 t, .int .u64 s, .int .u64 wl, .int .u64 0] 29)).heap.size := by simp
    have h := World.ownsMap_made (w.alloc (.cells #[.int .u64 t, .int .u64 s, .int .u64 wl, .int .u64 0] 29)) Try.prog 22 ptrElem
    rw [← e] at h
    exact h.alloc _

set_option maxHeartbeats 1000000 in
theorem new_any (w : World) (c t s wl : Int) (n : Nat) (hn : n ≤ 2 ^ 20) (ttl dl : Nat → Int) (en : Nat → Bool) (s1 s2 s3 : Option Addr) (c1 c2 c3 : Nat)
    (h1 : Sl w s1 n (fun i => .int .u64 (ttl i))) (h2 : Sl w s2 n (fun i => .int .u64 (dl i))) (h3 : Sl w s3 n (fun i => .bool (en i))) :
    Calls Try.prog 7 #[.int .u64 c, .agg #[.int .u64 t, .int .u64 s, .int .u64 wl, .int .u64 0], .slice s1 n c1, .slice s2 n c2, .slice s3 n c3] w fun e w' =>
      e = .returned (.pointer (some ⟨w.heap.size + 2, 0, .none⟩)) ∧ Upto (fun _ => False) w w' ∧ TabS w' (w.heap.size + 1) (w.heap.size + 2) (w.heap.size + 3) n ⟨c, t, s, wl, dl⟩ ttl en := by
  have hmm := @run_makeMap Try.prog
  have H1 : Hid (Sl w s1 n (fun i => .int .u64 (ttl i))) := h1
  have H2 : Hid (Sl w s2 n (fun i => .int .u64 (dl i))) := h2
  have H3 : Hid (Sl w s3 n (fun i => .bool (en i))) := h3
  clear h1 h2 h3
  go_enter Try.func7, Try.ntmps7
  go_wp2
  clear hmm
  go_loopw [12] (fun i wr => ∃ k : Nat, k ≤ n ∧ i = .int .i64 (k : Int) ∧ Upto (fun _ => False) w wr ∧ wr.heap.size = w.heap.size + 3 + k ∧ Tab wr (w.heap.size + 1) (w.heap.size + 2) (w.heap.size + 3) k c t s wl ttl dl en) (fun i _ => n - (intOf i).toNat)
  case atStart => exact ⟨0, Nat.zero_le _, rfl, (((Upto.refl _ w).alloc _).alloc _).alloc _, by simp, tab_start w c t s wl ttl dl en⟩
  case round =>
    obtain ⟨k, hk, rfl, hu, hsz, T⟩ := hrel
    by_cases hlt : k < n
    · obtain ⟨P1, rfl, hP1, hc1⟩ := (H1.out.keep hu) (by omega)
      obtain ⟨P2, rfl, hP2, hc2⟩ := (H2.out.keep hu) (by omega)
      obtain ⟨P3, rfl, hP3, hc3⟩ := (H3.out.keep hu) (by omega)
      have q1 := hc1 k hlt
      have q2 := hc2 k hlt
      have q3 := hc3 k hlt
      clear hc1 hc2 hc3 hP1 hP2 hP3
      obtain ⟨w2, hrun, hu2, hsz2, T2⟩ := tab_more T (by omega) hsz
      have h5 : wr.cell? ⟨w.heap.size + 2, 5, .none⟩ = some (.map (some (w.heap.size + 1))) := T.cell 5
      have HS : Hid (wr.heap.size = w.heap.size + 3 + k) := hsz
      have HS2 : Hid (w2.heap.size = w.heap.size + 3 + (k + 1)) := hsz2
      have hB := T.lt
      clear hsz hsz2
      have hlt' : (k : Int) < (n : Int) := by omega
      have hwk := wrap_nat (k := k) (by omega)
      go_wp2
      go_region
      go_wp2
      go_roundw
      case rel => exact ⟨k + 1, by omega, by go_num, hu.andThen hu2 (fun i hi => by left; omega), HS2.out, T2⟩
      case measure => simp [intOf]; omega
    · obtain rfl : k = n := by omega
      clear hsz
      go_wp2
      go_ret
      exact ⟨rfl, hu, T⟩

end Go.Proofs.Qxb6606085a
