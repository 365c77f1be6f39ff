import Derived.Test.Qxb6609468aBase
import Derived.Deep.DeepCutAuto
import Derived.Deep.RegionHeld
namespace Go.Proofs.Qxb6609468a
open Go.RowKit
set_option linter.unusedVariables false

/-- The two slices, as far as the script goes. -/
structure Ins (w : World) (a0 a1 : Option Addr) (n : Nat) (ty : Nat → Nat) (sz : Nat → Int) : Prop where
  ex : 0 < n → ∃ b0 o0 b1 o1, a0 = some ⟨b0, o0, none⟩ ∧ a1 = some ⟨b1, o1, none⟩ ∧ b0 < w.heap.size ∧ b1 < w.heap.size ∧
    (∀ i, i < n → w.cell? ⟨b0, o0 + i, none⟩ = some (.int .u8 (ty i : Int))) ∧ (∀ i, i < n → w.cell? ⟨b1, o1 + i, none⟩ = some (.int .i64 (sz i)))
  lt : ∀ i, i < n → ty i < 256

theorem Ins.keep {w w' : World} {a0 a1 : Option Addr} {n : Nat} {ty : Nat → Nat} {sz : Nat → Int} (h : Ins w a0 a1 n ty sz) (hb : Below w.heap.size w w') : Ins w' a0 a1 n ty sz := by
  refine ⟨fun h0 => ?_, h.lt⟩
  obtain ⟨b0, o0, b1, o1, e0, e1, h0', h1', g0, g1⟩ := h.ex h0
  exact ⟨b0, o0, b1, o1, e0, e1, Nat.lt_of_lt_of_le h0' hb.size, Nat.lt_of_lt_of_le h1' hb.size, fun i hi => by rw [hb.cell (p := ⟨b0, o0 + i, none⟩) h0']; exact g0 i hi, fun i hi => by rw [hb.cell (p := ⟨b1, o1 + i, none⟩) h1']; exact g1 i hi⟩

set_option maxHeartbeats 2000000 in
set_option maxRecDepth 100000 in
theorem law (w : World) (a0 a1 : Option Addr) (l0 l1 c0 c1 n : Nat) (ty : Nat → Nat) (sz : Nat → Int) (hn : n = if l1 < l0 then l1 else l0) (h0 : l0 ≤ 65536) (h1 : l1 ≤ 65536) (hI : Ins w a0 a1 n ty sz) :
    Calls Try.prog 3 #[.slice a0 l0 c0, .slice a1 l1 c1] w fun e w' => e = .returned (.bool true) ∧ Below w.heap.size w w' := by
  have hn0 : n ≤ l0 := by rw [hn]; split <;> omega
  have hn1 : n ≤ l1 := by rw [hn]; split <;> omega
  have HN : Hid (n = if l1 < l0 then l1 else l0) := hn
  have HI : Hid (Ins w a0 a1 n ty sz) := hI
  clear hn hI
  go_enter Try.func3, Try.ntmps3
  go_upto_if 31 with (go_at_call 4; refine (bytes_any w a0 a1 l0 l1 c0 c1 (by unfold maxLen; omega) (by unfold maxLen; omega)).mono ?_; rintro e w' ⟨⟨bb, rfl⟩, hw'⟩; obtain rfl := hw'.symm; clear hw'; cases bb)
  · go_ret
    exact ⟨rfl, Below.refl _ _⟩
  go_cut [5] (fun v w1 => v = .int .i64 (n : Int) ∧ w1 = w)
  case first =>
    by_cases hlt : l1 < l0
    · have hlt' : (l1 : Int) < (l0 : Int) := by omega
      go_wp2
      go_meet
      case rel => exact ⟨by rw [HN.out, if_pos hlt], rfl⟩
    · have hlt' : ¬ (l1 : Int) < (l0 : Int) := by omega
      go_wp2
      go_meet
      case rel => exact ⟨by rw [HN.out, if_neg hlt], rfl⟩
  case rest =>
  obtain ⟨rfl, hw1⟩ := hcut
  obtain rfl := hw1.symm
  clear hw1 HN
  go_wp2_with (first | (refine wpList_alloc36 rfl rfl ?_))
  go_loopw [7] (fun i wr => ∃ k : Nat, k ≤ n ∧ i = .int .i64 (k : Int) ∧ Below w.heap.size w wr ∧ Traf wr w.heap.size (runF ty sz k)) (fun i _ => n - (intOf i).toNat)
  case atStart => exact ⟨0, Nat.zero_le _, rfl, (Below.refl _ _).alloc (Nat.le_refl _) _, heap_alloc_new w _⟩
  case round =>
  obtain ⟨k, hk, rfl, hbl, T⟩ := hrel
  by_cases hlt : k < n
  · obtain ⟨b0, o0, b1, o1, rfl, rfl, hb0, hb1, g0, g1⟩ := HI.out.ex (by omega)
    have p0 : wr.cell? ⟨b0, o0 + k, none⟩ = some (.int .u8 (ty k : Int)) := by rw [hbl.cell (p := ⟨b0, o0 + k, none⟩) hb0]; exact g0 k hlt
    have p1 : wr.cell? ⟨b1, o1 + k, none⟩ = some (.int .i64 (sz k)) := by rw [hbl.cell (p := ⟨b1, o1 + k, none⟩) hb1]; exact g1 k hlt
    clear g0 g1
    have hlt' : (k : Int) < (n : Int) := by omega
    have hlt0 : (k : Int) < (l0 : Int) := by omega
    have hlt1 : (k : Int) < (l1 : Int) := by omega
    have HA : Hid (Calls Try.prog 5 #[.pointer (some ⟨w.heap.size, 0, none⟩), .int .u8 (ty k : Int), .int .i64 (sz k)] wr.drew fun e w' => e = .returned (.tuple #[]) ∧
        (Below w.heap.size w w' ∧ Traf w' w.heap.size (runF ty sz (k + 1))) ∧
        (w'.cell? ⟨b0, o0 + k, none⟩ = some (.int .u8 (ty k : Int)) ∧ w'.cell? ⟨b1, o1 + k, none⟩ = some (.int .i64 (sz k)))) := by
      refine (count_any w.heap.size (ty k) (HI.out.lt k hlt) (runF ty sz k) (sz k) wr.drew T).mono ?_
      rintro e w' ⟨rfl, T', hsz, hb⟩
      have hb' : Below w.heap.size wr w' := (Below.refl _ _).drew.trans hb
      refine ⟨rfl, ⟨hbl.trans hb', T'⟩, ?_, ?_⟩
      · rw [hb'.cell (p := ⟨b0, o0 + k, none⟩) hb0]; exact p0
      · rw [hb'.cell (p := ⟨b1, o1 + k, none⟩) hb1]; exact p1
    clear T hbl
    go_wp2_with fail
    go_region_held (fun w' => w'.cell? ⟨b0, o0 + k, none⟩ = some (.int .u8 (ty k : Int)) ∧ w'.cell? ⟨b1, o1 + k, none⟩ = some (.int .i64 (sz k))) (first | exact hcs | go_keep)
      (first | (go_at_call 5; refine HA.out.mono ?_; rintro e w' ⟨rfl, hnew, hcs⟩))
    go_wp2
    go_roundw
    case rel => exact ⟨k + 1, by omega, by go_num, hnew⟩
    case measure => simp [intOf]; omega
  obtain rfl : n = k := by omega
  clear hlt hk
  have HT : Hid (Below w.heap.size w wr ∧ Traf wr w.heap.size (runF ty sz n)) := ⟨hbl, T⟩
  clear hbl T
  go_wp2_with fail
  go_loopw [8] (fun i wr2 => ∃ k : Nat, k ≤ 256 ∧ i = .int .i64 (k : Int) ∧ Below w.heap.size w wr2 ∧ Traf wr2 w.heap.size (runF ty sz n)) (fun i _ => 256 - (intOf i).toNat)
  case atStart => exact ⟨0, Nat.zero_le _, rfl, HT.out⟩
  case round =>
  clear HT
  obtain ⟨k, hk, rfl, hbl, T⟩ := hrel
  have HT : Hid (Below w.heap.size w wr ∧ Traf wr w.heap.size (runF ty sz n)) := ⟨hbl, T⟩
  clear hbl T
  by_cases hlt : k < 256
  · have hlt' : (k : Int) < 256 := by omega
    go_wp2_with fail
    go_loop [9, 10, 11] (fun v9 v10 i => ∃ j : Nat, j ≤ n ∧ i = .int .i64 (j : Int) ∧ v9 = .int .u64 (runF ty sz j (k * 2)) ∧ v10 = .int .u64 (runF ty sz j (k * 2 + 1))) (fun _ _ i => n - (intOf i).toNat)
    case atStart => exact ⟨0, Nat.zero_le _, rfl, rfl, rfl⟩
    case round =>
      obtain ⟨j, hj, rfl, rfl, rfl⟩ := hrel
      by_cases hjn : j < n
      · obtain ⟨b0, o0, b1, o1, rfl, rfl, hb0, hb1, g0, g1⟩ := (HI.out.keep HT.out.1).ex (by omega)
        have p0 := g0 j hjn
        have p1 := g1 j hjn
        clear g0 g1
        have hjn' : (j : Int) < (n : Int) := by omega
        have hj0 : (j : Int) < (l0 : Int) := by omega
        have hj1 : (j : Int) < (l1 : Int) := by omega
        have htl := HI.out.lt j hjn
        have htl' : (ty j : Int) < 256 := by omega
        have HS : Hid (runF ty sz (j + 1) = step (runF ty sz j) (ty j) (sz j)) := rfl
        generalize runF ty sz (j + 1) = f' at HS
        have HF : Hid (runF ty sz (j + 1) = f') := HS.out ▸ rfl
        generalize runF ty sz j = f at HS ⊢
        by_cases e : ty j = k
        · have x1 : ((ty j : Int) == (k : Int)) = true := by simp [e]
          have HE : Hid (ty j = k) := e
          clear e
          go_wp2
          go_round
          case rel =>
            refine ⟨j + 1, by omega, by go_num, ?_, ?_⟩
            · rw [HF.out, HS.out]; unfold step; rw [HE.out, if_neg (by omega), if_pos (by omega)]
            · rw [HF.out, HS.out]; unfold step; rw [HE.out, if_pos (by omega)]
          case measure => simp [intOf]; omega
        · have x1 : ((ty j : Int) == (k : Int)) = false := by simp; omega
          have HE : Hid (¬ ty j = k) := e
          clear e
          go_wp2
          go_round
          case rel =>
            have hne := HE.out
            refine ⟨j + 1, by omega, by go_num, ?_, ?_⟩
            · rw [HF.out, HS.out]; unfold step; rw [if_neg (by omega), if_neg (by omega)]
            · rw [HF.out, HS.out]; unfold step; rw [if_neg (by omega), if_neg (by omega)]
          case measure => simp [intOf]; omega
      · obtain rfl : n = j := by omega
        have x1 : (runF ty sz n (k * 2) != runF ty sz n (k * 2)) = false := by simp
        have x2 : (runF ty sz n (k * 2 + 1) != runF ty sz n (k * 2 + 1)) = false := by simp
        have hw8 : IntKind.u8.wrap (k : Int) = (k : Int) := by simp [IntKind.wrap, IntKind.bits, IntKind.signed]; omega
        go_wp2_with (first | (go_at_call 6; refine (tally_any w.heap.size k hlt (runF ty sz n) wr HT.out.2).mono ?_; rintro e w' ⟨rfl, mq, rfl⟩))
        go_roundw
        case rel => exact ⟨k + 1, by omega, by go_num, below_drewN HT.out.1 mq, HT.out.2⟩
        case measure => simp [intOf]; omega
  obtain rfl : 256 = k := by omega
  have HM : Hid (Calls Try.prog 7 #[.pointer (some ⟨w.heap.size, 0, none⟩)] wr fun e w' => e = .returned (.tuple #[.int .u64 0, .int .u64 0]) ∧ ∃ m, w' = wr.drewN m) := by
    have h := mal_any w.heap.size (runF ty sz n) wr HT.out.2
    rw [runF_mal HI.out.lt (by omega) n (Nat.le_refl _), runF_mal HI.out.lt (by omega) n (Nat.le_refl _)] at h
    exact h
  go_wp2_with (first | (go_at_call 7; refine HM.out.mono ?_; rintro e w' ⟨rfl, mq, rfl⟩))
  go_ret
  exact ⟨rfl, below_drewN HT.out.1 mq⟩
end Go.Proofs.Qxb6609468a
