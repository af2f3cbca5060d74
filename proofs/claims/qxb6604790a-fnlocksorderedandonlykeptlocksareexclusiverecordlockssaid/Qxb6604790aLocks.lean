/-
  THE WALK OF '(Claim).Locks' (function 7): her contract, for every claim. By an AI agent.
-/
import Derived.Test.Qxb6604790aRows
import Derived.WalkKit
import Derived.ProofKit
namespace Go.Proofs.Qxb6604790a
open Go.RowKit

def stepCells (on mode kind : Int) (keep : Bool) : List Value := [.int .u8 on, .int .u8 mode, .int .u8 kind, .bool keep, .bool false, .bool false]

theorem info32 : (Try.prog.info? 32).map (fun i => (i.zero, i.size, i.bytes)) = some (some (.agg #[.int .u8 0, .int .u8 0, .int .u8 0, .bool false, .bool false, .bool false]), 6, 6) := by kernel_rfl
/-- The one step that is appended lies in a block of its own. -/
theorem news_lie (w : World) (k : Nat) (on mode kind : Int) (keep : Bool) (hk : w.heap.size = k) : ∀ (j : Nat) (u : Value), (stepCells on mode kind keep)[j]? = some u →
    (w.alloc (.cells (stepCells on mode kind keep).toArray 32)).cell? ((⟨k, 0, none⟩ : Addr).add j) = some u := by
  subst hk
  exact (World.ownsRow_lit (base := 0) (e := 32) (size := 6) w (stepCells on mode kind keep).toArray 1 (Nat.zero_le _) (by decide) rfl).cells rfl

theorem news_one (on mode kind : Int) (keep : Bool) : ∀ u ∈ stepCells on mode kind keep, u.oneCell' = true := by
  intro u hu
  simp [stepCells] at hu
  rcases hu with rfl | rfl | rfl | rfl | rfl <;> rfl

/-- What the law on append leaves, as the walk wants it: the value is a slice that is not nil; below 'base' nothing has turned. -/
theorem behind {w w' : World} {base n : Nat} {o : Obj} {v v' : Value} {xs ys : List Value} (hown : w.ownsRow base 32 6 v n xs) (hbase : base ≤ w.heap.size)
    (hown' : w'.ownsRow base 32 6 v' (n + 1) ys) (hgrow : (w.alloc o).grownBy w' v.ownBlock) :
    ∃ g cap, v' = .slice (some ⟨g, 0, none⟩) (n + 1) cap ∧ base ≤ w'.heap.size ∧ Below base w w' := by
  have hb : Below base w w' := by
    refine ((Below.refl base w).alloc hbase _).grown hgrow (by simp; omega) ?_
    intro j hj
    exact (hown.lt j hj).1
  have hsz := hb.size
  rcases hown'.2 with ⟨_, h0⟩ | ⟨g, cap, cur, rfl, _⟩
  · omega
  · exact ⟨g, cap, rfl, by omega, hb⟩

def locksCells (l t e : Bool) : List Value :=
  (if l then stepCells 0 3 1 true else []) ++ (if t then (if l then stepCells 1 2 1 false else []) ++ (if e then [] else stepCells 2 3 3 false) ++ stepCells 3 3 1 true else [])
def locksLen (l t e : Bool) : Nat :=
  (if l then 1 else 0) + (if t then (if l then 1 else 0) + (if e then 0 else 1) + 1 else 0)


/-- The receiver's own block (number B), as it was laid. -/
def Boxed (B : Nat) (l t e : Bool) (w : World) : Prop :=
  w.cell? ⟨B, 0, none⟩ = some (.bool l) ∧ w.cell? ⟨B, 1, none⟩ = some (.bool t) ∧ w.cell? ⟨B, 2, none⟩ = some (.bool e)

theorem boxed_laid (w : World) (l t e : Bool) : Boxed w.heap.size l t e (w.alloc (.cells #[.bool l, .bool t, .bool e] 24)) := by
  refine ⟨?_, ?_, ?_⟩ <;> simp

theorem boxed_kept {B : Nat} {l t e : Bool} {w w' : World} (h : Boxed B l t e w) (hb : Below (B + 1) w w') : Boxed B l t e w' :=
  ⟨(hb.cell (by simp)).trans h.1, (hb.cell (by simp)).trans h.2.1, (hb.cell (by simp)).trans h.2.2⟩

/-- What a call of Locks leaves: a slice of the call's own that holds the steps, in new memory. -/
def Gives (w : World) (l t e : Bool) (x : Ending) (w' : World) : Prop :=
  ∃ v, x = .returned v ∧ w'.ownsRow (w.heap.size + 1) 32 6 v (locksLen l t e) (locksCells l t e) ∧ Below w.heap.size w w'

set_option maxHeartbeats 400000 in
theorem locks_ff (e : Bool) (w : World) : Calls Try.prog 7 #[.agg #[.bool false, .bool false, .bool e]] w fun x w' => Gives w false false e x w' := by
  have X0 := boxed_laid w false false e
  have B0 : Below w.heap.size w (w.alloc (.cells #[.bool false, .bool false, .bool e] 24)) := (Below.refl _ w).alloc (Nat.le_refl _) _
  go_enter Try.func7, Try.ntmps7
  go_wp2
  go_ret
  exact ⟨_, rfl, World.ownsRow_nil _ _ _ _, B0⟩

set_option maxHeartbeats 400000 in
theorem locks_tf (e : Bool) (w : World) : Calls Try.prog 7 #[.agg #[.bool true, .bool false, .bool e]] w fun x w' => Gives w true false e x w' := by
  have X0 := boxed_laid w true false e
  have B0 : Below w.heap.size w (w.alloc (.cells #[.bool true, .bool false, .bool e] 24)) := (Below.refl _ w).alloc (Nat.le_refl _) _
  obtain ⟨i0, hi, hz0, hz1, hz2⟩ := info_parts info32
  go_enter Try.func7, Try.ntmps7
  go_wp2_with (first
    | (at_builtin; refine wpList_append_own _ rfl (.tmp 6) (.tmp 9) 22 rfl (w.heap.size + 1) 32 i0 _ 6 6 Try.underlying22 hi hz0 hz1 hz2 rfl (by decide) _ _ _ rfl (World.ownsRow.alloc (World.ownsRow_nil _ _ _ _) _) ⟨_, 0, none⟩ 1 1 (stepCells 0 3 1 true) rfl rfl (news_lie _ _ 0 3 1 true (by simp)) (news_one 0 3 1 true) (by decide) (by decide) (by simp <;> omega) ?_; intro v1 w1 hown1 hg1 _; obtain ⟨g1, c1, rfl, hs1, hb1⟩ := behind (World.ownsRow_nil _ _ _ _) (by simp) hown1 hg1; clear hg1; have X1 := boxed_kept X0 hb1; have Y1 := X1; obtain ⟨p1, q1, r1⟩ := Y1))
  go_ret
  exact ⟨_, rfl, hown1, (B0.trans (hb1.mono (Nat.le_succ _)))⟩

set_option maxHeartbeats 400000 in
theorem locks_ftf (w : World) : Calls Try.prog 7 #[.agg #[.bool false, .bool true, .bool false]] w fun x w' => Gives w false true false x w' := by
  have X0 := boxed_laid w false true false
  have B0 : Below w.heap.size w (w.alloc (.cells #[.bool false, .bool true, .bool false] 24)) := (Below.refl _ w).alloc (Nat.le_refl _) _
  obtain ⟨i0, hi, hz0, hz1, hz2⟩ := info_parts info32
  go_enter Try.func7, Try.ntmps7
  go_wp2_with (first
    | (at_builtin; refine wpList_append_own _ rfl (.tmp 25) (.tmp 28) 22 rfl (w.heap.size + 1) 32 i0 _ 6 6 Try.underlying22 hi hz0 hz1 hz2 rfl (by decide) _ _ _ rfl (World.ownsRow.alloc (World.ownsRow_nil _ _ _ _) _) ⟨_, 0, none⟩ 1 1 (stepCells 2 3 3 false) rfl rfl (news_lie _ _ 2 3 3 false (by simp)) (news_one 2 3 3 false) (by decide) (by decide) (by simp <;> omega) ?_; intro v1 w1 hown1 hg1 _; obtain ⟨g1, c1, rfl, hs1, hb1⟩ := behind (World.ownsRow_nil _ _ _ _) (by simp) hown1 hg1; clear hg1; have X1 := boxed_kept X0 hb1; have Y1 := X1; obtain ⟨p1, q1, r1⟩ := Y1)
    | (at_builtin; refine wpList_append_own _ rfl (.tmp 30) (.tmp 33) 22 rfl (w.heap.size + 1) 32 i0 _ 6 6 Try.underlying22 hi hz0 hz1 hz2 rfl (by decide) _ _ _ rfl (World.ownsRow.alloc hown1 _) ⟨_, 0, none⟩ 1 1 (stepCells 3 3 1 true) rfl rfl (news_lie _ _ 3 3 1 true (by simp)) (news_one 3 3 1 true) (by decide) (by decide) (by simp <;> omega) ?_; intro v2 w2 hown2 hg2 _; obtain ⟨g2, c2, rfl, hs2, hb2⟩ := behind hown1 hs1 hown2 hg2; clear hg2; have X2 := boxed_kept X1 hb2; have Y2 := X2; obtain ⟨p2, q2, r2⟩ := Y2))
  go_ret
  exact ⟨_, rfl, hown2, ((B0.trans (hb1.mono (Nat.le_succ _))).trans (hb2.mono (Nat.le_succ _)))⟩

set_option maxHeartbeats 400000 in
theorem locks_ftt (w : World) : Calls Try.prog 7 #[.agg #[.bool false, .bool true, .bool true]] w fun x w' => Gives w false true true x w' := by
  have X0 := boxed_laid w false true true
  have B0 : Below w.heap.size w (w.alloc (.cells #[.bool false, .bool true, .bool true] 24)) := (Below.refl _ w).alloc (Nat.le_refl _) _
  obtain ⟨i0, hi, hz0, hz1, hz2⟩ := info_parts info32
  go_enter Try.func7, Try.ntmps7
  go_wp2_with (first
    | (at_builtin; refine wpList_append_own _ rfl (.tmp 30) (.tmp 33) 22 rfl (w.heap.size + 1) 32 i0 _ 6 6 Try.underlying22 hi hz0 hz1 hz2 rfl (by decide) _ _ _ rfl (World.ownsRow.alloc (World.ownsRow_nil _ _ _ _) _) ⟨_, 0, none⟩ 1 1 (stepCells 3 3 1 true) rfl rfl (news_lie _ _ 3 3 1 true (by simp)) (news_one 3 3 1 true) (by decide) (by decide) (by simp <;> omega) ?_; intro v1 w1 hown1 hg1 _; obtain ⟨g1, c1, rfl, hs1, hb1⟩ := behind (World.ownsRow_nil _ _ _ _) (by simp) hown1 hg1; clear hg1; have X1 := boxed_kept X0 hb1; have Y1 := X1; obtain ⟨p1, q1, r1⟩ := Y1))
  go_ret
  exact ⟨_, rfl, hown1, (B0.trans (hb1.mono (Nat.le_succ _)))⟩

set_option maxHeartbeats 400000 in
theorem locks_ttf (w : World) : Calls Try.prog 7 #[.agg #[.bool true, .bool true, .bool false]] w fun x w' => Gives w true true false x w' := by
  have X0 := boxed_laid w true true false
  have B0 : Below w.heap.size w (w.alloc (.cells #[.bool true, .bool true, .bool false] 24)) := (Below.refl _ w).alloc (Nat.le_refl _) _
  obtain ⟨i0, hi, hz0, hz1, hz2⟩ := info_parts info32
  go_enter Try.func7, Try.ntmps7
  go_wp2_with (first
    | (at_builtin; refine wpList_append_own _ rfl (.tmp 6) (.tmp 9) 22 rfl (w.heap.size + 1) 32 i0 _ 6 6 Try.underlying22 hi hz0 hz1 hz2 rfl (by decide) _ _ _ rfl (World.ownsRow.alloc (World.ownsRow_nil _ _ _ _) _) ⟨_, 0, none⟩ 1 1 (stepCells 0 3 1 true) rfl rfl (news_lie _ _ 0 3 1 true (by simp)) (news_one 0 3 1 true) (by decide) (by decide) (by simp <;> omega) ?_; intro v1 w1 hown1 hg1 _; obtain ⟨g1, c1, rfl, hs1, hb1⟩ := behind (World.ownsRow_nil _ _ _ _) (by simp) hown1 hg1; clear hg1; have X1 := boxed_kept X0 hb1; have Y1 := X1; obtain ⟨p1, q1, r1⟩ := Y1)
    | (at_builtin; refine wpList_append_own _ rfl (.tmp 17) (.tmp 20) 22 rfl (w.heap.size + 1) 32 i0 _ 6 6 Try.underlying22 hi hz0 hz1 hz2 rfl (by decide) _ _ _ rfl (World.ownsRow.alloc hown1 _) ⟨_, 0, none⟩ 1 1 (stepCells 1 2 1 false) rfl rfl (news_lie _ _ 1 2 1 false (by simp)) (news_one 1 2 1 false) (by decide) (by decide) (by simp <;> omega) ?_; intro v2 w2 hown2 hg2 _; obtain ⟨g2, c2, rfl, hs2, hb2⟩ := behind hown1 hs1 hown2 hg2; clear hg2; have X2 := boxed_kept X1 hb2; have Y2 := X2; obtain ⟨p2, q2, r2⟩ := Y2)
    | (at_builtin; refine wpList_append_own _ rfl (.tmp 25) (.tmp 28) 22 rfl (w.heap.size + 1) 32 i0 _ 6 6 Try.underlying22 hi hz0 hz1 hz2 rfl (by decide) _ _ _ rfl (World.ownsRow.alloc hown2 _) ⟨_, 0, none⟩ 1 1 (stepCells 2 3 3 false) rfl rfl (news_lie _ _ 2 3 3 false (by simp)) (news_one 2 3 3 false) (by decide) (by decide) (by simp <;> omega) ?_; intro v3 w3 hown3 hg3 _; obtain ⟨g3, c3, rfl, hs3, hb3⟩ := behind hown2 hs2 hown3 hg3; clear hg3; have X3 := boxed_kept X2 hb3; have Y3 := X3; obtain ⟨p3, q3, r3⟩ := Y3)
    | (at_builtin; refine wpList_append_own _ rfl (.tmp 30) (.tmp 33) 22 rfl (w.heap.size + 1) 32 i0 _ 6 6 Try.underlying22 hi hz0 hz1 hz2 rfl (by decide) _ _ _ rfl (World.ownsRow.alloc hown3 _) ⟨_, 0, none⟩ 1 1 (stepCells 3 3 1 true) rfl rfl (news_lie _ _ 3 3 1 true (by simp)) (news_one 3 3 1 true) (by decide) (by decide) (by simp <;> omega) ?_; intro v4 w4 hown4 hg4 _; obtain ⟨g4, c4, rfl, hs4, hb4⟩ := behind hown3 hs3 hown4 hg4; clear hg4; have X4 := boxed_kept X3 hb4; have Y4 := X4; obtain ⟨p4, q4, r4⟩ := Y4))
  go_ret
  exact ⟨_, rfl, hown4, ((((B0.trans (hb1.mono (Nat.le_succ _))).trans (hb2.mono (Nat.le_succ _))).trans (hb3.mono (Nat.le_succ _))).trans (hb4.mono (Nat.le_succ _)))⟩

set_option maxHeartbeats 400000 in
theorem locks_ttt (w : World) : Calls Try.prog 7 #[.agg #[.bool true, .bool true, .bool true]] w fun x w' => Gives w true true true x w' := by
  have X0 := boxed_laid w true true true
  have B0 : Below w.heap.size w (w.alloc (.cells #[.bool true, .bool true, .bool true] 24)) := (Below.refl _ w).alloc (Nat.le_refl _) _
  obtain ⟨i0, hi, hz0, hz1, hz2⟩ := info_parts info32
  go_enter Try.func7, Try.ntmps7
  go_wp2_with (first
    | (at_builtin; refine wpList_append_own _ rfl (.tmp 6) (.tmp 9) 22 rfl (w.heap.size + 1) 32 i0 _ 6 6 Try.underlying22 hi hz0 hz1 hz2 rfl (by decide) _ _ _ rfl (World.ownsRow.alloc (World.ownsRow_nil _ _ _ _) _) ⟨_, 0, none⟩ 1 1 (stepCells 0 3 1 true) rfl rfl (news_lie _ _ 0 3 1 true (by simp)) (news_one 0 3 1 true) (by decide) (by decide) (by simp <;> omega) ?_; intro v1 w1 hown1 hg1 _; obtain ⟨g1, c1, rfl, hs1, hb1⟩ := behind (World.ownsRow_nil _ _ _ _) (by simp) hown1 hg1; clear hg1; have X1 := boxed_kept X0 hb1; have Y1 := X1; obtain ⟨p1, q1, r1⟩ := Y1)
    | (at_builtin; refine wpList_append_own _ rfl (.tmp 17) (.tmp 20) 22 rfl (w.heap.size + 1) 32 i0 _ 6 6 Try.underlying22 hi hz0 hz1 hz2 rfl (by decide) _ _ _ rfl (World.ownsRow.alloc hown1 _) ⟨_, 0, none⟩ 1 1 (stepCells 1 2 1 false) rfl rfl (news_lie _ _ 1 2 1 false (by simp)) (news_one 1 2 1 false) (by decide) (by decide) (by simp <;> omega) ?_; intro v2 w2 hown2 hg2 _; obtain ⟨g2, c2, rfl, hs2, hb2⟩ := behind hown1 hs1 hown2 hg2; clear hg2; have X2 := boxed_kept X1 hb2; have Y2 := X2; obtain ⟨p2, q2, r2⟩ := Y2)
    | (at_builtin; refine wpList_append_own _ rfl (.tmp 30) (.tmp 33) 22 rfl (w.heap.size + 1) 32 i0 _ 6 6 Try.underlying22 hi hz0 hz1 hz2 rfl (by decide) _ _ _ rfl (World.ownsRow.alloc hown2 _) ⟨_, 0, none⟩ 1 1 (stepCells 3 3 1 true) rfl rfl (news_lie _ _ 3 3 1 true (by simp)) (news_one 3 3 1 true) (by decide) (by decide) (by simp <;> omega) ?_; intro v3 w3 hown3 hg3 _; obtain ⟨g3, c3, rfl, hs3, hb3⟩ := behind hown2 hs2 hown3 hg3; clear hg3; have X3 := boxed_kept X2 hb3; have Y3 := X3; obtain ⟨p3, q3, r3⟩ := Y3))
  go_ret
  exact ⟨_, rfl, hown3, (((B0.trans (hb1.mono (Nat.le_succ _))).trans (hb2.mono (Nat.le_succ _))).trans (hb3.mono (Nat.le_succ _)))⟩

theorem locks_any (l t e : Bool) (w : World) : Calls Try.prog 7 #[.agg #[.bool l, .bool t, .bool e]] w fun x w' => Gives w l t e x w' := by
  cases l <;> cases t
  · exact locks_ff e w
  · cases e
    · exact locks_ftf w
    · exact locks_ftt w
  · exact locks_tf e w
  · cases e
    · exact locks_ttf w
    · exact locks_ttt w

end Go.Proofs.Qxb6604790a
