import Derived.Test.Qxb6612292aBin
namespace Go.Proofs.Qxb6612292a
open Go.RowKit
set_option linter.unusedVariables false
set_option linter.unusedSimpArgs false

/-- Some bool comes back. -/
def IsB (e : Ending) : Prop := ∃ b : Bool, e = .returned (.bool b)
/-- A bool comes back; where it is true the dots are in order. -/
def IsH (D : Nat → Dt) (n : Nat) (e : Ending) : Prop := ∃ bb : Bool, e = .returned (.bool bb) ∧ (bb = true → Sorted D n)

set_option maxHeartbeats 1000000 in
theorem bytes6 (sl : Option Addr) (n cap : Nat) (D : Nat → Dt) (id : ByteArray) (q : Value) (w : World) (hn : n ≤ maxLen) (hR : Rw w sl n D) :
    Calls Try.prog 6 #[.slice sl n cap, .string id, q] w fun e w' => IsB e ∧ w' = w := by
  have HR : Hid (Rw w sl n D) := hR
  clear hR
  unfold maxLen at hn
  go_enter Try.func6, Try.ntmps6
  go_wp2
  · go_ret
    exact ⟨⟨_, rfl⟩, rfl⟩
  go_loop [7, 8] (fun v7 v8 => ∃ (k : Nat) (z : Int), k ≤ n ∧ v8 = .int .i64 (k : Int) ∧ v7 = .int .i64 z) (fun _ i => n - (intOf i).toNat)
  case atStart => exact ⟨0, _, Nat.zero_le _, rfl, rfl⟩
  case round =>
    obtain ⟨k, z, hk, rfl, rfl⟩ := hrel
    by_cases hlt : k < n
    · obtain ⟨b, o, rfl, hbl, hc⟩ := HR.out (by omega)
      have c0 := (hc k hlt).1
      clear hc
      have hlt' : (k : Int) < (n : Int) := by omega
      go_wp2
      · go_ret
        exact ⟨⟨_, rfl⟩, rfl⟩
      · go_ret
        exact ⟨⟨_, rfl⟩, rfl⟩
      · go_round
        case rel => exact ⟨k + 1, _, by omega, by go_num, rfl⟩
        case measure => simp [intOf]; omega
    · go_wp2
      all_goals
        go_ret
        exact ⟨⟨_, rfl⟩, rfl⟩

set_option maxHeartbeats 1000000 in
theorem bytes12 (sl : Option Addr) (n cap : Nat) (D : Nat → Dt) (id : ByteArray) (q : Value) (w : World) (hn : n ≤ maxLen) (hR : Rw w sl n D) :
    Calls Try.prog 12 #[.slice sl n cap, .string id, q] w fun e w' => IsB e ∧ w' = w := by
  have HR : Hid (Rw w sl n D) := hR
  clear hR
  unfold maxLen at hn
  go_enter Try.func12, Try.ntmps12
  go_wp2
  · go_ret
    exact ⟨⟨_, rfl⟩, rfl⟩
  go_loop [7, 8] (fun v7 v8 => ∃ (k : Nat) (z : Int), k ≤ n ∧ v8 = .int .i64 (k : Int) ∧ v7 = .int .i64 z) (fun _ i => n - (intOf i).toNat)
  case atStart => exact ⟨0, _, Nat.zero_le _, rfl, rfl⟩
  case round =>
    obtain ⟨k, z, hk, rfl, rfl⟩ := hrel
    by_cases hlt : k < n
    · obtain ⟨b, o, rfl, hbl, hc⟩ := HR.out (by omega)
      have c0 := (hc k hlt).1
      clear hc
      have hlt' : (k : Int) < (n : Int) := by omega
      go_wp2
      · go_ret
        exact ⟨⟨_, rfl⟩, rfl⟩
      · go_ret
        exact ⟨⟨_, rfl⟩, rfl⟩
      · go_round
        case rel => exact ⟨k + 1, _, by omega, by go_num, rfl⟩
        case measure => simp [intOf]; omega
    · go_wp2
      all_goals
        go_ret
        exact ⟨⟨_, rfl⟩, rfl⟩

set_option maxHeartbeats 1000000 in
theorem dbytes_any (sl : Option Addr) (n cap : Nat) (D : Nat → Dt) (id : ByteArray) (w : World) (hn : n ≤ maxLen) (hR : Rw w sl n D) :
    Calls Try.prog 7 #[.slice sl n cap, .string id] w fun e w' => (∃ z, e = .returned (.int .i64 z)) ∧ w' = w := by
  have HR : Hid (Rw w sl n D) := hR
  clear hR
  unfold maxLen at hn
  go_enter Try.func7, Try.ntmps7
  go_wp2
  go_loop [5, 6] (fun v5 v6 => ∃ (k : Nat) (z : Int), k ≤ n ∧ v6 = .int .i64 (k : Int) ∧ v5 = .int .i64 z) (fun _ i => n - (intOf i).toNat)
  case atStart => exact ⟨0, _, Nat.zero_le _, rfl, rfl⟩
  case round =>
    obtain ⟨k, z, hk, rfl, rfl⟩ := hrel
    by_cases hlt : k < n
    · obtain ⟨b, o, rfl, hbl, hc⟩ := HR.out (by omega)
      have c0 := (hc k hlt).1
      clear hc
      have hlt' : (k : Int) < (n : Int) := by omega
      go_wp2
      go_round
      case rel => exact ⟨k + 1, _, by omega, by go_num, rfl⟩
      case measure => simp [intOf]; omega
    · go_wp2
      go_ret
      exact ⟨⟨_, rfl⟩, rfl⟩

/-- What dotsHeld says where it says yes. -/
def SortedTo (D : Nat → Dt) (k : Nat) : Prop := ∀ i, i + 1 < k → lessD (D i) (D (i + 1)) = true

set_option maxHeartbeats 1000000 in
theorem held_any (sl : Option Addr) (n cap : Nat) (D : Nat → Dt) (w : World) (hn : n ≤ 65536) (hR : Rw w sl n D) :
    Calls Try.prog 8 #[.slice sl n cap] w fun e w' => IsH D n e ∧ Below w.heap.size w w' := by
  have HR : Hid (Rw w sl n D) := hR
  clear hR
  go_enter Try.func8, Try.ntmps8
  go_wp2
  go_loopw [3] (fun v3 wr => ∃ k : Nat, k ≤ n ∧ v3 = .int .i64 (k : Int) ∧ Hid (Sorted D k) ∧ Below w.heap.size w wr) (fun i _ => n - (intOf i).toNat)
  case atStart => exact ⟨0, Nat.zero_le _, rfl, fun i hi => by omega, Below.refl _ _⟩
  case round =>
    obtain ⟨k, hk, rfl, HS, hb⟩ := hrel
    have HB : Hid (Below w.heap.size w wr) := hb
    clear hb
    by_cases hlt : k < n
    · obtain ⟨b, o, rfl, hbl, hc⟩ := (HR.out.keep HB.out) (by omega)
      obtain ⟨c0, c1⟩ := hc k hlt
      have hlt' : (k : Int) < (n : Int) := by omega
      by_cases hz : (D k).2 = 0
      · have x1 : ((D k).2 == 0) = true := by simp [hz]
        have HZ : Hid ((D k).2 = 0) := hz
        clear hz hc
        generalize (D k).2 = qk at c1 x1 HZ
        go_wp2
        go_ret
        exact ⟨⟨false, rfl, fun h => by cases h⟩, HB.out⟩
      · have x1 : ((D k).2 == 0) = false := by simp [hz]
        clear hz
        by_cases h0 : k = 0
        · have hd : decide ((0 : Int) < (k : Int)) = false := by simp [h0]
          have hd2 : decide (0 < k) = false := by simp [h0]
          have H0 : Hid (k = 0) := h0
          clear h0 hc
          generalize (D k).2 = qk at c1 x1
          go_wp2
          go_quiet (fail)
          go_wp2
          go_roundw
          case rel => exact ⟨k + 1, by omega, by go_num, fun i hi => by have := H0.out; omega, below_drewN HB.out _⟩
          case measure => simp [intOf]; omega
        · obtain ⟨j, hj⟩ : ∃ j, k = j + 1 := ⟨k - 1, by omega⟩
          obtain ⟨e0, e1⟩ := hc j (by omega)
          have HJ : Hid (k = j + 1) := hj
          have hwk : IntKind.i64.wrap ((k : Int) - 1) = (j : Int) := by simp [IntKind.wrap, IntKind.bits, IntKind.signed]; omega
          have hwk2 : wrap64 ((k : Int) - 1) = (j : Int) := by unfold wrap64; omega
          have hjn : (j : Int) < (n : Int) := by omega
          have hjj : j < k := by omega
          clear hj
          clear hc
          have hk0 : decide (0 < k) = true := by simp; omega
          have hk0' : decide ((0 : Int) < (k : Int)) = true := by simp; omega
          generalize hle : lessD (D j) (D k) = lv
          have HLE : Hid (lessD (D j) (D k) = lv) := hle
          have HA : Hid (Calls Try.prog 11 #[.agg #[.string (D j).1, .int .u64 (D j).2], .agg #[.string (D k).1, .int .u64 (D k).2]] wr.drew fun e w' => e = .returned (.bool lv) ∧ Below wr.heap.size wr w' ∧
              (w'.cell? ⟨b, o + j * 2, none⟩ = some (.string (D j).1) ∧ w'.cell? ⟨b, o + j * 2 + 1, none⟩ = some (.int .u64 (D j).2) ∧ w'.cell? ⟨b, o + k * 2, none⟩ = some (.string (D k).1) ∧ w'.cell? ⟨b, o + k * 2 + 1, none⟩ = some (.int .u64 (D k).2))) := by
            refine (less_any (D j) (D k) wr.drew).mono ?_
            rintro e w' ⟨rfl, rfl⟩
            have hb' : Below wr.heap.size wr ((wr.drew.alloc (.cells #[.string (D j).1, .int .u64 (D j).2] 30)).alloc (.cells #[.string (D k).1, .int .u64 (D k).2] 30)) :=
              (((Below.refl _ _).drew).alloc (Nat.le_refl _) _).alloc (by simp) _
            refine ⟨by rw [hle], hb', ?_, ?_, ?_, ?_⟩
            · rw [hb'.cell (p := ⟨b, o + j * 2, none⟩) (block_lt_of_cell e0)]; exact e0
            · rw [hb'.cell (p := ⟨b, o + j * 2 + 1, none⟩) (block_lt_of_cell e1)]; exact e1
            · rw [hb'.cell (p := ⟨b, o + k * 2, none⟩) (block_lt_of_cell c0)]; exact c0
            · rw [hb'.cell (p := ⟨b, o + k * 2 + 1, none⟩) (block_lt_of_cell c1)]; exact c1
          clear hle hbl
          have HK : Hid (¬ k = 0) := h0
          clear h0
          generalize hs : (D j).1 = s0 at e0 HA
          generalize hq : (D j).2 = q0 at e1 HA
          generalize hs1 : (D k).1 = s1 at c0 HA
          generalize hq1 : (D k).2 = q1 at c1 HA x1
          clear hs hq hs1 hq1
          go_wp2_with fail
          cases lv
          · go_region_held (fun w' => w'.cell? ⟨b, o + j * 2, none⟩ = some (.string s0) ∧ w'.cell? ⟨b, o + j * 2 + 1, none⟩ = some (.int .u64 q0) ∧ w'.cell? ⟨b, o + k * 2, none⟩ = some (.string s1) ∧ w'.cell? ⟨b, o + k * 2 + 1, none⟩ = some (.int .u64 q1)) (first | exact hcs | go_keep)
              (first | (go_at_call 11; refine HA.out.mono ?_; rintro e w' ⟨rfl, hnew, hcs⟩))
            go_wp2
            go_ret
            exact ⟨⟨false, rfl, fun h => by cases h⟩, HB.out.trans (hnew.mono HB.out.size)⟩
          · go_region_held (fun w' => w'.cell? ⟨b, o + j * 2, none⟩ = some (.string s0) ∧ w'.cell? ⟨b, o + j * 2 + 1, none⟩ = some (.int .u64 q0) ∧ w'.cell? ⟨b, o + k * 2, none⟩ = some (.string s1) ∧ w'.cell? ⟨b, o + k * 2 + 1, none⟩ = some (.int .u64 q1)) (first | exact hcs | go_keep)
              (first | (go_at_call 11; refine HA.out.mono ?_; rintro e w' ⟨rfl, hnew, hcs⟩))
            go_wp2
            go_roundw
            case rel =>
              refine ⟨k + 1, by omega, by go_num, fun i hi => ?_, HB.out.trans (hnew.mono HB.out.size)⟩
              by_cases e : i + 1 = k
              · have := HLE.out
                rw [show j = i from by have := HJ.out; omega] at this
                rw [e]; exact this
              · exact HS.out i (by omega)
            case measure => simp [intOf]; omega
    · obtain rfl : n = k := by omega
      go_wp2
      go_ret
      exact ⟨⟨true, rfl, fun _ => HS.out⟩, HB.out⟩
end Go.Proofs.Qxb6612292a
