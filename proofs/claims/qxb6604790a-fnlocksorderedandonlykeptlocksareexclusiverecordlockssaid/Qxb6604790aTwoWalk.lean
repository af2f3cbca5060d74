/-
  THE WALK OF LAW 2 (function 4): 'FnLocksOrderedAndOnlyKeptLocksAreExclusiveRecordLocks' returns true, for each of the eight inputs. By an AI agent.
-/
import Derived.Test.Qxb6604790aCells
import Derived.Deep.QuietTactic
import Derived.BigQuiet
namespace Go.Proofs.Qxb6604790a.fnLocksOrderedAndOnlyKeptLocksAreExclusiveRecordLocks
open Go.RowKit

set_option maxHeartbeats 1600000 in
theorem walk_ff (e : Bool) (w : World) : Calls Try.prog 4 #[.bool false, .bool false, .bool e] w fun x w' => x = .returned (.bool true) ∧ Below w.heap.size w w' := by
  go_enter Try.func4, Try.ntmps4
  go_wp2_with fail
  refine (locks_any _ _ _ _).mono ?_
  rintro x w1 ⟨v1, rfl, hown1, hb1⟩
  obtain ⟨g1, c1, rfl⟩ := slice_of (n := 0) hown1
  clear hown1
  have HB : Hid (Below w.heap.size w w1) := hb1
  clear hb1
  go_wp2_with fail
  go_loopw [9] (fun i wr => (i = .int .i64 0) ∧ Below w1.heap.size w1 wr)
    (fun i _ => 0 - (intOf i).toNat)
  case atStart => exact ⟨rfl, Below.refl _ _⟩
  case round =>
    obtain ⟨hcase, hbr⟩ := hrel
    have HR : Hid (Below w1.heap.size w1 wr) := hbr
    clear hbr
    obtain rfl := hcase
    · go_wp2
      go_ret
      exact ⟨rfl, HB.out.trans (HR.out.mono HB.out.size)⟩

set_option maxHeartbeats 1600000 in
theorem walk_tf (e : Bool) (w : World) : Calls Try.prog 4 #[.bool true, .bool false, .bool e] w fun x w' => x = .returned (.bool true) ∧ Below w.heap.size w w' := by
  go_enter Try.func4, Try.ntmps4
  go_wp2_with fail
  refine (locks_any _ _ _ _).mono ?_
  rintro x w1 ⟨v1, rfl, hown1, hb1⟩
  obtain ⟨g1, c1, rfl, row1⟩ := row_of (n := 1) hown1 (by decide)
  clear hown1
  have HB : Hid (Below w.heap.size w w1) := hb1
  clear hb1
  go_wp2_with fail
  go_loopw [9] (fun i wr => (i = .int .i64 0 ∨ i = .int .i64 1) ∧ Below w1.heap.size w1 wr)
    (fun i _ => 1 - (intOf i).toNat)
  case atStart => exact ⟨.inl rfl, Below.refl _ _⟩
  case round =>
    obtain ⟨hcase, hbr⟩ := hrel
    have row1' := row1.kept hbr row1.1
    have hs1 : g1 < wr.heap.size := row1'.1
    have HR : Hid (Below w1.heap.size w1 wr) := hbr
    clear hbr row1
    rcases hcase with rfl | rfl
    · obtain ⟨b0, b1, b2, b3, b4, b5⟩ := row1'.six 0 0 1 2 3 4 5 0 3 1 true rfl (Nat.le_of_ble_eq_true rfl) rfl
      clear row1'
      go_wp2
      go_quiet (fail)
      go_wp2
      go_roundw
      case rel => exact ⟨by simp, below_drewN (HR.out.alloc HR.out.size _) _⟩
      case measure => simp [intOf]
    · obtain ⟨b0, _⟩ := row1'.six 0 0 1 2 3 4 5 0 3 1 true rfl (Nat.le_of_ble_eq_true rfl) rfl
      clear row1'
      go_wp2
      go_ret
      exact ⟨rfl, HB.out.trans (HR.out.mono HB.out.size)⟩

set_option maxHeartbeats 1600000 in
theorem walk_ftf (w : World) : Calls Try.prog 4 #[.bool false, .bool true, .bool false] w fun x w' => x = .returned (.bool true) ∧ Below w.heap.size w w' := by
  go_enter Try.func4, Try.ntmps4
  go_wp2_with fail
  refine (locks_any _ _ _ _).mono ?_
  rintro x w1 ⟨v1, rfl, hown1, hb1⟩
  obtain ⟨g1, c1, rfl, row1⟩ := row_of (n := 2) hown1 (by decide)
  clear hown1
  have HB : Hid (Below w.heap.size w w1) := hb1
  clear hb1
  go_wp2_with fail
  go_loopw [9] (fun i wr => (i = .int .i64 0 ∨ i = .int .i64 1 ∨ i = .int .i64 2) ∧ Below w1.heap.size w1 wr)
    (fun i _ => 2 - (intOf i).toNat)
  case atStart => exact ⟨.inl rfl, Below.refl _ _⟩
  case round =>
    obtain ⟨hcase, hbr⟩ := hrel
    have row1' := row1.kept hbr row1.1
    have hs1 : g1 < wr.heap.size := row1'.1
    have HR : Hid (Below w1.heap.size w1 wr) := hbr
    clear hbr row1
    rcases hcase with rfl | rfl | rfl
    · obtain ⟨b0, b1, b2, b3, b4, b5⟩ := row1'.six 0 0 1 2 3 4 5 2 3 3 false rfl (Nat.le_of_ble_eq_true rfl) rfl
      clear row1'
      go_wp2
      go_quiet (fail)
      go_wp2
      go_roundw
      case rel => exact ⟨by simp, below_drewN (HR.out.alloc HR.out.size _) _⟩
      case measure => simp [intOf]
    · obtain ⟨b0, b1, b2, b3, b4, b5⟩ := row1'.six 1 6 7 8 9 10 11 3 3 1 true rfl (Nat.le_of_ble_eq_true rfl) rfl
      obtain ⟨a0, _⟩ := row1'.six 0 0 1 2 3 4 5 2 3 3 false rfl (Nat.le_of_ble_eq_true rfl) rfl
      clear row1'
      go_wp2
      go_quiet (fail)
      go_wp2
      go_roundw
      case rel => exact ⟨by simp, below_drewN (HR.out.alloc HR.out.size _) _⟩
      case measure => simp [intOf]
    · obtain ⟨b0, _⟩ := row1'.six 0 0 1 2 3 4 5 2 3 3 false rfl (Nat.le_of_ble_eq_true rfl) rfl
      obtain ⟨a0, _⟩ := row1'.six 1 6 7 8 9 10 11 3 3 1 true rfl (Nat.le_of_ble_eq_true rfl) rfl
      clear row1'
      go_wp2
      go_ret
      exact ⟨rfl, HB.out.trans (HR.out.mono HB.out.size)⟩

set_option maxHeartbeats 1600000 in
theorem walk_ftt (w : World) : Calls Try.prog 4 #[.bool false, .bool true, .bool true] w fun x w' => x = .returned (.bool true) ∧ Below w.heap.size w w' := by
  go_enter Try.func4, Try.ntmps4
  go_wp2_with fail
  refine (locks_any _ _ _ _).mono ?_
  rintro x w1 ⟨v1, rfl, hown1, hb1⟩
  obtain ⟨g1, c1, rfl, row1⟩ := row_of (n := 1) hown1 (by decide)
  clear hown1
  have HB : Hid (Below w.heap.size w w1) := hb1
  clear hb1
  go_wp2_with fail
  go_loopw [9] (fun i wr => (i = .int .i64 0 ∨ i = .int .i64 1) ∧ Below w1.heap.size w1 wr)
    (fun i _ => 1 - (intOf i).toNat)
  case atStart => exact ⟨.inl rfl, Below.refl _ _⟩
  case round =>
    obtain ⟨hcase, hbr⟩ := hrel
    have row1' := row1.kept hbr row1.1
    have hs1 : g1 < wr.heap.size := row1'.1
    have HR : Hid (Below w1.heap.size w1 wr) := hbr
    clear hbr row1
    rcases hcase with rfl | rfl
    · obtain ⟨b0, b1, b2, b3, b4, b5⟩ := row1'.six 0 0 1 2 3 4 5 3 3 1 true rfl (Nat.le_of_ble_eq_true rfl) rfl
      clear row1'
      go_wp2
      go_quiet (fail)
      go_wp2
      go_roundw
      case rel => exact ⟨by simp, below_drewN (HR.out.alloc HR.out.size _) _⟩
      case measure => simp [intOf]
    · obtain ⟨b0, _⟩ := row1'.six 0 0 1 2 3 4 5 3 3 1 true rfl (Nat.le_of_ble_eq_true rfl) rfl
      clear row1'
      go_wp2
      go_ret
      exact ⟨rfl, HB.out.trans (HR.out.mono HB.out.size)⟩

set_option maxHeartbeats 1600000 in
theorem walk_ttf (w : World) : Calls Try.prog 4 #[.bool true, .bool true, .bool false] w fun x w' => x = .returned (.bool true) ∧ Below w.heap.size w w' := by
  go_enter Try.func4, Try.ntmps4
  go_wp2_with fail
  refine (locks_any _ _ _ _).mono ?_
  rintro x w1 ⟨v1, rfl, hown1, hb1⟩
  obtain ⟨g1, c1, rfl, row1⟩ := row_of (n := 4) hown1 (by decide)
  clear hown1
  have HB : Hid (Below w.heap.size w w1) := hb1
  clear hb1
  go_wp2_with fail
  go_loopw [9] (fun i wr => (i = .int .i64 0 ∨ i = .int .i64 1 ∨ i = .int .i64 2 ∨ i = .int .i64 3 ∨ i = .int .i64 4) ∧ Below w1.heap.size w1 wr)
    (fun i _ => 4 - (intOf i).toNat)
  case atStart => exact ⟨.inl rfl, Below.refl _ _⟩
  case round =>
    obtain ⟨hcase, hbr⟩ := hrel
    have row1' := row1.kept hbr row1.1
    have hs1 : g1 < wr.heap.size := row1'.1
    have HR : Hid (Below w1.heap.size w1 wr) := hbr
    clear hbr row1
    rcases hcase with rfl | rfl | rfl | rfl | rfl
    · obtain ⟨b0, b1, b2, b3, b4, b5⟩ := row1'.six 0 0 1 2 3 4 5 0 3 1 true rfl (Nat.le_of_ble_eq_true rfl) rfl
      clear row1'
      go_wp2
      go_quiet (fail)
      go_wp2
      go_roundw
      case rel => exact ⟨by simp, below_drewN (HR.out.alloc HR.out.size _) _⟩
      case measure => simp [intOf]
    · obtain ⟨b0, b1, b2, b3, b4, b5⟩ := row1'.six 1 6 7 8 9 10 11 1 2 1 false rfl (Nat.le_of_ble_eq_true rfl) rfl
      obtain ⟨a0, _⟩ := row1'.six 0 0 1 2 3 4 5 0 3 1 true rfl (Nat.le_of_ble_eq_true rfl) rfl
      clear row1'
      go_wp2
      go_quiet (fail)
      go_wp2
      go_roundw
      case rel => exact ⟨by simp, below_drewN (HR.out.alloc HR.out.size _) _⟩
      case measure => simp [intOf]
    · obtain ⟨b0, b1, b2, b3, b4, b5⟩ := row1'.six 2 12 13 14 15 16 17 2 3 3 false rfl (Nat.le_of_ble_eq_true rfl) rfl
      obtain ⟨a0, _⟩ := row1'.six 1 6 7 8 9 10 11 1 2 1 false rfl (Nat.le_of_ble_eq_true rfl) rfl
      clear row1'
      go_wp2
      go_quiet (fail)
      go_wp2
      go_roundw
      case rel => exact ⟨by simp, below_drewN (HR.out.alloc HR.out.size _) _⟩
      case measure => simp [intOf]
    · obtain ⟨b0, b1, b2, b3, b4, b5⟩ := row1'.six 3 18 19 20 21 22 23 3 3 1 true rfl (Nat.le_of_ble_eq_true rfl) rfl
      obtain ⟨a0, _⟩ := row1'.six 2 12 13 14 15 16 17 2 3 3 false rfl (Nat.le_of_ble_eq_true rfl) rfl
      clear row1'
      go_wp2
      go_quiet (fail)
      go_wp2
      go_roundw
      case rel => exact ⟨by simp, below_drewN (HR.out.alloc HR.out.size _) _⟩
      case measure => simp [intOf]
    · obtain ⟨b0, _⟩ := row1'.six 0 0 1 2 3 4 5 0 3 1 true rfl (Nat.le_of_ble_eq_true rfl) rfl
      obtain ⟨a0, _⟩ := row1'.six 3 18 19 20 21 22 23 3 3 1 true rfl (Nat.le_of_ble_eq_true rfl) rfl
      clear row1'
      go_wp2
      go_ret
      exact ⟨rfl, HB.out.trans (HR.out.mono HB.out.size)⟩

set_option maxHeartbeats 1600000 in
theorem walk_ttt (w : World) : Calls Try.prog 4 #[.bool true, .bool true, .bool true] w fun x w' => x = .returned (.bool true) ∧ Below w.heap.size w w' := by
  go_enter Try.func4, Try.ntmps4
  go_wp2_with fail
  refine (locks_any _ _ _ _).mono ?_
  rintro x w1 ⟨v1, rfl, hown1, hb1⟩
  obtain ⟨g1, c1, rfl, row1⟩ := row_of (n := 3) hown1 (by decide)
  clear hown1
  have HB : Hid (Below w.heap.size w w1) := hb1
  clear hb1
  go_wp2_with fail
  go_loopw [9] (fun i wr => (i = .int .i64 0 ∨ i = .int .i64 1 ∨ i = .int .i64 2 ∨ i = .int .i64 3) ∧ Below w1.heap.size w1 wr)
    (fun i _ => 3 - (intOf i).toNat)
  case atStart => exact ⟨.inl rfl, Below.refl _ _⟩
  case round =>
    obtain ⟨hcase, hbr⟩ := hrel
    have row1' := row1.kept hbr row1.1
    have hs1 : g1 < wr.heap.size := row1'.1
    have HR : Hid (Below w1.heap.size w1 wr) := hbr
    clear hbr row1
    rcases hcase with rfl | rfl | rfl | rfl
    · obtain ⟨b0, b1, b2, b3, b4, b5⟩ := row1'.six 0 0 1 2 3 4 5 0 3 1 true rfl (Nat.le_of_ble_eq_true rfl) rfl
      clear row1'
      go_wp2
      go_quiet (fail)
      go_wp2
      go_roundw
      case rel => exact ⟨by simp, below_drewN (HR.out.alloc HR.out.size _) _⟩
      case measure => simp [intOf]
    · obtain ⟨b0, b1, b2, b3, b4, b5⟩ := row1'.six 1 6 7 8 9 10 11 1 2 1 false rfl (Nat.le_of_ble_eq_true rfl) rfl
      obtain ⟨a0, _⟩ := row1'.six 0 0 1 2 3 4 5 0 3 1 true rfl (Nat.le_of_ble_eq_true rfl) rfl
      clear row1'
      go_wp2
      go_quiet (fail)
      go_wp2
      go_roundw
      case rel => exact ⟨by simp, below_drewN (HR.out.alloc HR.out.size _) _⟩
      case measure => simp [intOf]
    · obtain ⟨b0, b1, b2, b3, b4, b5⟩ := row1'.six 2 12 13 14 15 16 17 3 3 1 true rfl (Nat.le_of_ble_eq_true rfl) rfl
      obtain ⟨a0, _⟩ := row1'.six 1 6 7 8 9 10 11 1 2 1 false rfl (Nat.le_of_ble_eq_true rfl) rfl
      clear row1'
      go_wp2
      go_quiet (fail)
      go_wp2
      go_roundw
      case rel => exact ⟨by simp, below_drewN (HR.out.alloc HR.out.size _) _⟩
      case measure => simp [intOf]
    · obtain ⟨b0, _⟩ := row1'.six 0 0 1 2 3 4 5 0 3 1 true rfl (Nat.le_of_ble_eq_true rfl) rfl
      obtain ⟨a0, _⟩ := row1'.six 2 12 13 14 15 16 17 3 3 1 true rfl (Nat.le_of_ble_eq_true rfl) rfl
      clear row1'
      go_wp2
      go_ret
      exact ⟨rfl, HB.out.trans (HR.out.mono HB.out.size)⟩

theorem walk (a0 a1 a2 : Bool) (w : World) : Calls Try.prog 4 #[.bool a0, .bool a1, .bool a2] w fun x w' => x = .returned (.bool true) ∧ Below w.heap.size w w' := by
  cases a0 <;> cases a1
  · exact walk_ff a2 w
  · cases a2
    · exact walk_ftf w
    · exact walk_ftt w
  · exact walk_tf a2 w
  · cases a2
    · exact walk_ttf w
    · exact walk_ttt w

end Go.Proofs.Qxb6604790a.fnLocksOrderedAndOnlyKeptLocksAreExclusiveRecordLocks
