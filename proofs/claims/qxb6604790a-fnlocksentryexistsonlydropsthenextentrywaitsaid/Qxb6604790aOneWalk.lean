/-
  THE WALK OF LAW 1 (function 3): 'FnLocksEntryExistsOnlyDropsTheNextEntryWait' returns true, for each of the four inputs. By an AI agent.
  The loop's relation lists the states of (i, k, nexts) at the heads of the rounds: the input is known, so they are few.
-/
import Derived.Test.Qxb6604790aCells
import Derived.Deep.QuietTactic
import Derived.BigQuiet
namespace Go.Proofs.Qxb6604790a.fnLocksEntryExistsOnlyDropsTheNextEntryWait
open Go.RowKit

set_option maxHeartbeats 1600000 in
theorem walk_ff (w : World) : Calls Try.prog 3 #[.bool false, .bool false] w fun e w' => e = .returned (.bool true) ∧ Below w.heap.size w w' := by
  go_enter Try.func3, Try.ntmps3
  go_wp2_with fail
  refine (locks_any _ _ _ _).mono ?_
  rintro e w1 ⟨v1, rfl, hown1, hb1⟩
  obtain ⟨g1, c1, rfl⟩ := slice_of (n := 0) hown1
  clear hown1
  go_wp2_with fail
  refine (locks_any _ _ _ _).mono ?_
  rintro e w2 ⟨v2, rfl, hown2, hb2⟩
  obtain ⟨g2, c2, rfl⟩ := slice_of (n := 0) hown2
  clear hown2
  have HB : Hid (Below w.heap.size w w2) := hb1.trans (hb2.mono hb1.size)
  clear hb1 hb2
  go_wp2_with fail
  go_loopw [7, 8, 9] (fun k nx i wr => ((i = .int .i64 0 ∧ k = .int .i64 0 ∧ nx = .int .i64 0)) ∧ Below w2.heap.size w2 wr)
    (fun _ _ i _ => 0 - (intOf i).toNat)
  case atStart => exact ⟨⟨rfl, rfl, rfl⟩, Below.refl _ _⟩
  case round =>
    obtain ⟨hcase, hbr⟩ := hrel
    have HR : Hid (Below w2.heap.size w2 wr) := hbr
    clear hbr
    obtain ⟨rfl, rfl, rfl⟩ := hcase
    · go_wp2
      go_ret
      exact ⟨rfl, HB.out.trans (HR.out.mono HB.out.size)⟩

set_option maxHeartbeats 1600000 in
theorem walk_ft (w : World) : Calls Try.prog 3 #[.bool false, .bool true] w fun e w' => e = .returned (.bool true) ∧ Below w.heap.size w w' := by
  go_enter Try.func3, Try.ntmps3
  go_wp2_with fail
  refine (locks_any _ _ _ _).mono ?_
  rintro e w1 ⟨v1, rfl, hown1, hb1⟩
  obtain ⟨g1, c1, rfl, row1⟩ := row_of (n := 1) hown1 (by decide)
  clear hown1
  go_wp2_with fail
  refine (locks_any _ _ _ _).mono ?_
  rintro e w2 ⟨v2, rfl, hown2, hb2⟩
  obtain ⟨g2, c2, rfl, row2⟩ := row_of (n := 2) hown2 (by decide)
  clear hown2
  replace row1 := row1.kept hb2 row1.1
  have HB : Hid (Below w.heap.size w w2) := hb1.trans (hb2.mono hb1.size)
  clear hb1 hb2
  go_wp2_with fail
  go_loopw [7, 8, 9] (fun k nx i wr => ((i = .int .i64 0 ∧ k = .int .i64 0 ∧ nx = .int .i64 0) ∨ (i = .int .i64 1 ∧ k = .int .i64 0 ∧ nx = .int .i64 1) ∨ (i = .int .i64 2 ∧ k = .int .i64 1 ∧ nx = .int .i64 1)) ∧ Below w2.heap.size w2 wr)
    (fun _ _ i _ => 2 - (intOf i).toNat)
  case atStart => exact ⟨.inl ⟨rfl, rfl, rfl⟩, Below.refl _ _⟩
  case round =>
    obtain ⟨hcase, hbr⟩ := hrel
    have row1' := row1.kept hbr row1.1
    have hs1 : g1 < wr.heap.size := row1'.1
    have row2' := row2.kept hbr row2.1
    have hs2 : g2 < wr.heap.size := row2'.1
    have HR : Hid (Below w2.heap.size w2 wr) := hbr
    clear hbr row1 row2
    rcases hcase with ⟨rfl, rfl, rfl⟩ | ⟨rfl, rfl, rfl⟩ | ⟨rfl, rfl, rfl⟩
    · obtain ⟨b0, b1, b2, b3, b4, b5⟩ := row2'.six 0 0 1 2 3 4 5 2 3 3 false rfl (by decide) rfl
      clear row1' row2'
      go_wp2
      go_roundw
      case rel => exact ⟨by simp, HR.out.alloc HR.out.size _⟩
      case measure => simp [intOf]
    · obtain ⟨b0, b1, b2, b3, b4, b5⟩ := row2'.six 1 6 7 8 9 10 11 3 3 1 true rfl (by decide) rfl
      obtain ⟨a0, a1, a2, a3, a4, a5⟩ := row1'.six 0 0 1 2 3 4 5 3 3 1 true rfl (by decide) rfl
      clear row1' row2'
      go_wp2
      go_quiet (fail)
      go_wp2
      go_roundw
      case rel => exact ⟨by simp, below_drewN (HR.out.alloc HR.out.size _) _⟩
      case measure => simp [intOf]
    · clear row1' row2'
      go_wp2
      go_ret
      exact ⟨rfl, HB.out.trans (HR.out.mono HB.out.size)⟩

set_option maxHeartbeats 1600000 in
theorem walk_tf (w : World) : Calls Try.prog 3 #[.bool true, .bool false] w fun e w' => e = .returned (.bool true) ∧ Below w.heap.size w w' := by
  go_enter Try.func3, Try.ntmps3
  go_wp2_with fail
  refine (locks_any _ _ _ _).mono ?_
  rintro e w1 ⟨v1, rfl, hown1, hb1⟩
  obtain ⟨g1, c1, rfl, row1⟩ := row_of (n := 1) hown1 (by decide)
  clear hown1
  go_wp2_with fail
  refine (locks_any _ _ _ _).mono ?_
  rintro e w2 ⟨v2, rfl, hown2, hb2⟩
  obtain ⟨g2, c2, rfl, row2⟩ := row_of (n := 1) hown2 (by decide)
  clear hown2
  replace row1 := row1.kept hb2 row1.1
  have HB : Hid (Below w.heap.size w w2) := hb1.trans (hb2.mono hb1.size)
  clear hb1 hb2
  go_wp2_with fail
  go_loopw [7, 8, 9] (fun k nx i wr => ((i = .int .i64 0 ∧ k = .int .i64 0 ∧ nx = .int .i64 0) ∨ (i = .int .i64 1 ∧ k = .int .i64 1 ∧ nx = .int .i64 0)) ∧ Below w2.heap.size w2 wr)
    (fun _ _ i _ => 1 - (intOf i).toNat)
  case atStart => exact ⟨.inl ⟨rfl, rfl, rfl⟩, Below.refl _ _⟩
  case round =>
    obtain ⟨hcase, hbr⟩ := hrel
    have row1' := row1.kept hbr row1.1
    have hs1 : g1 < wr.heap.size := row1'.1
    have row2' := row2.kept hbr row2.1
    have hs2 : g2 < wr.heap.size := row2'.1
    have HR : Hid (Below w2.heap.size w2 wr) := hbr
    clear hbr row1 row2
    rcases hcase with ⟨rfl, rfl, rfl⟩ | ⟨rfl, rfl, rfl⟩
    · obtain ⟨b0, b1, b2, b3, b4, b5⟩ := row2'.six 0 0 1 2 3 4 5 0 3 1 true rfl (by decide) rfl
      obtain ⟨a0, a1, a2, a3, a4, a5⟩ := row1'.six 0 0 1 2 3 4 5 0 3 1 true rfl (by decide) rfl
      clear row1' row2'
      go_wp2
      go_quiet (fail)
      go_wp2
      go_roundw
      case rel => exact ⟨by simp, below_drewN (HR.out.alloc HR.out.size _) _⟩
      case measure => simp [intOf]
    · clear row1' row2'
      go_wp2
      go_ret
      exact ⟨rfl, HB.out.trans (HR.out.mono HB.out.size)⟩

set_option maxHeartbeats 1600000 in
theorem walk_tt (w : World) : Calls Try.prog 3 #[.bool true, .bool true] w fun e w' => e = .returned (.bool true) ∧ Below w.heap.size w w' := by
  go_enter Try.func3, Try.ntmps3
  go_wp2_with fail
  refine (locks_any _ _ _ _).mono ?_
  rintro e w1 ⟨v1, rfl, hown1, hb1⟩
  obtain ⟨g1, c1, rfl, row1⟩ := row_of (n := 3) hown1 (by decide)
  clear hown1
  go_wp2_with fail
  refine (locks_any _ _ _ _).mono ?_
  rintro e w2 ⟨v2, rfl, hown2, hb2⟩
  obtain ⟨g2, c2, rfl, row2⟩ := row_of (n := 4) hown2 (by decide)
  clear hown2
  replace row1 := row1.kept hb2 row1.1
  have HB : Hid (Below w.heap.size w w2) := hb1.trans (hb2.mono hb1.size)
  clear hb1 hb2
  go_wp2_with fail
  go_loopw [7, 8, 9] (fun k nx i wr => ((i = .int .i64 0 ∧ k = .int .i64 0 ∧ nx = .int .i64 0) ∨ (i = .int .i64 1 ∧ k = .int .i64 1 ∧ nx = .int .i64 0) ∨ (i = .int .i64 2 ∧ k = .int .i64 2 ∧ nx = .int .i64 0) ∨ (i = .int .i64 3 ∧ k = .int .i64 2 ∧ nx = .int .i64 1) ∨ (i = .int .i64 4 ∧ k = .int .i64 3 ∧ nx = .int .i64 1)) ∧ Below w2.heap.size w2 wr)
    (fun _ _ i _ => 4 - (intOf i).toNat)
  case atStart => exact ⟨.inl ⟨rfl, rfl, rfl⟩, Below.refl _ _⟩
  case round =>
    obtain ⟨hcase, hbr⟩ := hrel
    have row1' := row1.kept hbr row1.1
    have hs1 : g1 < wr.heap.size := row1'.1
    have row2' := row2.kept hbr row2.1
    have hs2 : g2 < wr.heap.size := row2'.1
    have HR : Hid (Below w2.heap.size w2 wr) := hbr
    clear hbr row1 row2
    rcases hcase with ⟨rfl, rfl, rfl⟩ | ⟨rfl, rfl, rfl⟩ | ⟨rfl, rfl, rfl⟩ | ⟨rfl, rfl, rfl⟩ | ⟨rfl, rfl, rfl⟩
    · obtain ⟨b0, b1, b2, b3, b4, b5⟩ := row2'.six 0 0 1 2 3 4 5 0 3 1 true rfl (by decide) rfl
      obtain ⟨a0, a1, a2, a3, a4, a5⟩ := row1'.six 0 0 1 2 3 4 5 0 3 1 true rfl (by decide) rfl
      clear row1' row2'
      go_wp2
      go_quiet (fail)
      go_wp2
      go_roundw
      case rel => exact ⟨by simp, below_drewN (HR.out.alloc HR.out.size _) _⟩
      case measure => simp [intOf]
    · obtain ⟨b0, b1, b2, b3, b4, b5⟩ := row2'.six 1 6 7 8 9 10 11 1 2 1 false rfl (by decide) rfl
      obtain ⟨a0, a1, a2, a3, a4, a5⟩ := row1'.six 1 6 7 8 9 10 11 1 2 1 false rfl (by decide) rfl
      clear row1' row2'
      go_wp2
      go_quiet (fail)
      go_wp2
      go_roundw
      case rel => exact ⟨by simp, below_drewN (HR.out.alloc HR.out.size _) _⟩
      case measure => simp [intOf]
    · obtain ⟨b0, b1, b2, b3, b4, b5⟩ := row2'.six 2 12 13 14 15 16 17 2 3 3 false rfl (by decide) rfl
      clear row1' row2'
      go_wp2
      go_roundw
      case rel => exact ⟨by simp, HR.out.alloc HR.out.size _⟩
      case measure => simp [intOf]
    · obtain ⟨b0, b1, b2, b3, b4, b5⟩ := row2'.six 3 18 19 20 21 22 23 3 3 1 true rfl (by decide) rfl
      obtain ⟨a0, a1, a2, a3, a4, a5⟩ := row1'.six 2 12 13 14 15 16 17 3 3 1 true rfl (by decide) rfl
      clear row1' row2'
      go_wp2
      go_quiet (fail)
      go_wp2
      go_roundw
      case rel => exact ⟨by simp, below_drewN (HR.out.alloc HR.out.size _) _⟩
      case measure => simp [intOf]
    · clear row1' row2'
      go_wp2
      go_ret
      exact ⟨rfl, HB.out.trans (HR.out.mono HB.out.size)⟩

theorem walk (a0 a1 : Bool) (w : World) : Calls Try.prog 3 #[.bool a0, .bool a1] w fun e w' => e = .returned (.bool true) ∧ Below w.heap.size w w' := by
  cases a0 <;> cases a1
  · exact walk_ff w
  · exact walk_ft w
  · exact walk_tf w
  · exact walk_tt w

end Go.Proofs.Qxb6604790a.fnLocksEntryExistsOnlyDropsTheNextEntryWait
