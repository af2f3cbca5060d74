/-
  THE WALK OF '(Claim).Locks' (function 7): her contract, for every claim. By an AI agent.
-/
import Derived.Test.Qxb6604790aRows
import Derived.WalkKit
import Derived.ProofKit
namespace Go.Proofs.Qxb6604790a
open Go.RowKit

def stepCells (on mode kind : Int) (keep : Bool) : List Value := [.int .u8 on, .int .u8 mode, .int .u8 kind, .bool keep, .bool false, .bool false]

theorem info32 : (Try.prog.info? 32).map (fun i => (i.zero, i.size, i.bytes)) = some (some (.agg #[.int .u8 0, .int .u8 0, .int .u8 0, .bool false, .bool false, .bool false]), 6, 6) := by kernel_rfl
theorem append_step {ops : Array Oper} {rest : List Oper} {o : Oper} {a : Act} {Q : Exit → Act → World → Prop} (w : World) (base : Nat) (s x : Operand) (k : Nat) (v : Value) (n : Nat) (xs : List Value)
    (on mode kind : Int) (keep : Bool) (hgd : o.guard = none)
    (ho : o.op = .call { callee := .builtin .append, args := #[s, x], argTypes := #[22, 22] })
    (hs : a.eval s = v) (hx : a.eval x = .slice (some ⟨k, 0, none⟩) 1 1) (hk : w.heap.size = k)
    (hown : w.ownsRow base 32 6 v n xs) (hn : n ≤ 8) (hbase : base ≤ w.heap.size)
    (h : ∀ g cap w', w'.ownsRow base 32 6 (.slice (some ⟨g, 0, none⟩) (n + 1) cap) (n + 1) (xs ++ stepCells on mode kind keep) → base ≤ w'.heap.size → Below base w w' →
      wpList Try.prog ops Q rest (a.put o.dst (.slice (some ⟨g, 0, none⟩) (n + 1) cap)) w') :
    wpList Try.prog ops Q (o :: rest) a (w.alloc (.cells (stepCells on mode kind keep).toArray 32)) := by
  obtain ⟨i0, hi, hz0, hz1, hz2⟩ := info_parts info32
  subst hk
  refine wpList_append_own _ hgd s x 22 ho base 32 i0 _ 6 6 Try.underlying22 hi hz0 hz1 hz2 rfl (by decide) v n xs hs (hown.alloc _) ⟨w.heap.size, 0, none⟩ 1 1 (stepCells on mode kind keep) hx rfl ?_ ?_ (by unfold maxLen; omega) (by omega) (by simp; omega) ?_
  · exact (World.ownsRow_lit (base := 0) (e := 32) (size := 6) w (stepCells on mode kind keep).toArray 1 (Nat.zero_le _) (by decide) rfl).cells rfl
  · intro u hu
    simp [stepCells] at hu
    rcases hu with rfl | rfl | rfl | rfl | rfl <;> rfl
  · intro v' w' hown' hgrow hnil
    have hb : Below base w w' := by
      refine ((Below.refl base w).alloc hbase _).grown hgrow (by simp; omega) ?_
      intro j hj
      exact (hown.lt j hj).1
    have hsz := hb.size
    rcases hown'.2 with ⟨_, h0⟩ | ⟨g, cap, cur, rfl, _⟩
    · omega
    · exact h g cap w' hown' (by omega) hb


def locksCells (l t e : Bool) : List Value :=
  (if l then stepCells 0 3 1 true else []) ++ (if t then (if l then stepCells 1 2 1 false else []) ++ (if e then [] else stepCells 2 3 3 false) ++ stepCells 3 3 1 true else [])
def locksLen (l t e : Bool) : Nat :=
  (if l then 1 else 0) + (if t then (if l then 1 else 0) + (if e then 0 else 1) + 1 else 0)


/-- The receiver's own block (number B), as it was laid. -/
def Boxed (B : Nat) (l t e : Bool) (w : World) : Prop :=
  w.cell? ⟨B, 0, none⟩ = some (.bool l) ∧ w.cell? ⟨B, 1, none⟩ = some (.bool t) ∧ w.cell? ⟨B, 2, none⟩ = some (.bool e)

theorem boxed_laid (w : World) (l t e : Bool) : Boxed w.heap.size l t e (w.alloc (.cells #[.bool l, .bool t, .bool e] 24)) := by
  refine ⟨?_, ?_, ?_⟩ <;> simp

theorem boxed_kept {B : Nat} {l t e : Bool} {w w' : World} (h : Boxed B l t e w) (hb : Below (B + 1) w w') : Boxed B l t e w' :=
  ⟨(hb.cell (by simp)).trans h.1, (hb.cell (by simp)).trans h.2.1, (hb.cell (by simp)).trans h.2.2⟩

/-- What a call of Locks leaves: a slice of the call's own that holds the steps, in new memory. -/
def Gives (w : World) (l t e : Bool) (x : Ending) (w' : World) : Prop :=
  ∃ v, x = .returned v ∧ w'.ownsRow (w.heap.size + 1) 32 6 v (locksLen l t e) (locksCells l t e) ∧ Below w.heap.size w w'

set_option maxHeartbeats 400000 in
theorem locks_ff (e : Bool) (w : World) : Calls Try.prog 7 #[.agg #[.bool false, .bool false, .bool e]] w fun x w' => Gives w false false e x w' := by
  have X0 := boxed_laid w false false e
  have B0 : Below w.heap.size w (w.alloc (.cells #[.bool false, .bool false, .bool e] 24)) := (Below.refl _ w).alloc (Nat.le_refl _) _
  go_enter Try.func7, Try.ntmps7
  go_wp2
  go_ret
  exact ⟨_, rfl, World.ownsRow_nil _ _ _ _, B0⟩

set_option maxHeartbeats 400000 in
theorem locks_tf (e : Bool) (w : World) : Calls Try.prog 7 #[.agg #[.bool true, .bool false, .bool e]] w fun x w' => Gives w true false e x w' := by
  have X0 := boxed_laid w true false e
  have B0 : Below w.heap.size w (w.alloc (.cells #[.bool true, .bool false, .bool e] 24)) := (Below.refl _ w).alloc (Nat.le_refl _) _
  go_enter Try.func7, Try.ntmps7
  go_wp2_with (first
    | (at_builtin; refine append_step _ (w.heap.size + 1) (.tmp 6) (.tmp 9) _ _ _ _ 0 3 1 true rfl rfl rfl rfl (by simp) (World.ownsRow_nil _ _ _ _) (by decide) (by simp) ?_; intro g1 c1 w1 hown1 hs1 hb1; have X1 := boxed_kept X0 hb1; have Y1 := X1; obtain ⟨p1, q1, r1⟩ := Y1))
  go_ret
  exact ⟨_, rfl, hown1, (B0.trans (hb1.mono (Nat.le_succ _)))⟩

set_option maxHeartbeats 400000 in
theorem locks_ftf (w : World) : Calls Try.prog 7 #[.agg #[.bool false, .bool true, .bool false]] w fun x w' => Gives w false true false x w' := by
  have X0 := boxed_laid w false true false
  have B0 : Below w.heap.size w (w.alloc (.cells #[.bool false, .bool true, .bool false] 24)) := (Below.refl _ w).alloc (Nat.le_refl _) _
  go_enter Try.func7, Try.ntmps7
  go_wp2_with (first
    | (at_builtin; refine append_step _ (w.heap.size + 1) (.tmp 25) (.tmp 28) _ _ _ _ 2 3 3 false rfl rfl rfl rfl (by simp) (World.ownsRow_nil _ _ _ _) (by decide) (by simp) ?_; intro g1 c1 w1 hown1 hs1 hb1; have X1 := boxed_kept X0 hb1; have Y1 := X1; obtain ⟨p1, q1, r1⟩ := Y1)
    | (at_builtin; refine append_step _ (w.heap.size + 1) (.tmp 30) (.tmp 33) _ _ _ _ 3 3 1 true rfl rfl rfl rfl (by simp) hown1 (by decide) hs1 ?_; intro g2 c2 w2 hown2 hs2 hb2; have X2 := boxed_kept X1 hb2; have Y2 := X2; obtain ⟨p2, q2, r2⟩ := Y2))
  go_ret
  exact ⟨_, rfl, hown2, ((B0.trans (hb1.mono (Nat.le_succ _))).trans (hb2.mono (Nat.le_succ _)))⟩

set_option maxHeartbeats 400000 in
theorem locks_ftt (w : World) : Calls Try.prog 7 #[.agg #[.bool false, .bool true, .bool true]] w fun x w' => Gives w false true true x w' := by
  have X0 := boxed_laid w false true true
  have B0 : Below w.heap.size w (w.alloc (.cells #[.bool false, .bool true, .bool true] 24)) := (Below.refl _ w).alloc (Nat.le_refl _) _
  go_enter Try.func7, Try.ntmps7
  go_wp2_with (first
    | (at_builtin; refine append_step _ (w.heap.size + 1) (.tmp 30) (.tmp 33) _ _ _ _ 3 3 1 true rfl rfl rfl rfl (by simp) (World.ownsRow_nil _ _ _ _) (by decide) (by simp) ?_; intro g1 c1 w1 hown1 hs1 hb1; have X1 := boxed_kept X0 hb1; have Y1 := X1; obtain ⟨p1, q1, r1⟩ := Y1))
  go_ret
  exact ⟨_, rfl, hown1, (B0.trans (hb1.mono (Nat.le_succ _)))⟩

set_option maxHeartbeats 400000 in
theorem locks_ttf (w : World) : Calls Try.prog 7 #[.agg #[.bool true, .bool true, .bool false]] w fun x w' => Gives w true true false x w' := by
  have X0 := boxed_laid w true true false
  have B0 : Below w.heap.size w (w.alloc (.cells #[.bool true, .bool true, .bool false] 24)) := (Below.refl _ w).alloc (Nat.le_refl _) _
  go_enter Try.func7, Try.ntmps7
  go_wp2_with (first
    | (at_builtin; refine append_step _ (w.heap.size + 1) (.tmp 6) (.tmp 9) _ _ _ _ 0 3 1 true rfl rfl rfl rfl (by simp) (World.ownsRow_nil _ _ _ _) (by decide) (by simp) ?_; intro g1 c1 w1 hown1 hs1 hb1; have X1 := boxed_kept X0 hb1; have Y1 := X1; obtain ⟨p1, q1, r1⟩ := Y1)
    | (at_builtin; refine append_step _ (w.heap.size + 1) (.tmp 17) (.tmp 20) _ _ _ _ 1 2 1 false rfl rfl rfl rfl (by simp) hown1 (by decide) hs1 ?_; intro g2 c2 w2 hown2 hs2 hb2; have X2 := boxed_kept X1 hb2; have Y2 := X2; obtain ⟨p2, q2, r2⟩ := Y2)
    | (at_builtin; refine append_step _ (w.heap.size + 1) (.tmp 25) (.tmp 28) _ _ _ _ 2 3 3 false rfl rfl rfl rfl (by simp) hown2 (by decide) hs2 ?_; intro g3 c3 w3 hown3 hs3 hb3; have X3 := boxed_kept X2 hb3; have Y3 := X3; obtain ⟨p3, q3, r3⟩ := Y3)
    | (at_builtin; refine append_step _ (w.heap.size + 1) (.tmp 30) (.tmp 33) _ _ _ _ 3 3 1 true rfl rfl rfl rfl (by simp) hown3 (by decide) hs3 ?_; intro g4 c4 w4 hown4 hs4 hb4; have X4 := boxed_kept X3 hb4; have Y4 := X4; obtain ⟨p4, q4, r4⟩ := Y4))
  go_ret
  exact ⟨_, rfl, hown4, ((((B0.trans (hb1.mono (Nat.le_succ _))).trans (hb2.mono (Nat.le_succ _))).trans (hb3.mono (Nat.le_succ _))).trans (hb4.mono (Nat.le_succ _)))⟩

set_option maxHeartbeats 400000 in
theorem locks_ttt (w : World) : Calls Try.prog 7 #[.agg #[.bool true, .bool true, .bool true]] w fun x w' => Gives w true true true x w' := by
  have X0 := boxed_laid w true true true
  have B0 : Below w.heap.size w (w.alloc (.cells #[.bool true, .bool true, .bool true] 24)) := (Below.refl _ w).alloc (Nat.le_refl _) _
  go_enter Try.func7, Try.ntmps7
  go_wp2_with (first
    | (at_builtin; refine append_step _ (w.heap.size + 1) (.tmp 6) (.tmp 9) _ _ _ _ 0 3 1 true rfl rfl rfl rfl (by simp) (World.ownsRow_nil _ _ _ _) (by decide) (by simp) ?_; intro g1 c1 w1 hown1 hs1 hb1; have X1 := boxed_kept X0 hb1; have Y1 := X1; obtain ⟨p1, q1, r1⟩ := Y1)
    | (at_builtin; refine append_step _ (w.heap.size + 1) (.tmp 17) (.tmp 20) _ _ _ _ 1 2 1 false rfl rfl rfl rfl (by simp) hown1 (by decide) hs1 ?_; intro g2 c2 w2 hown2 hs2 hb2; have X2 := boxed_kept X1 hb2; have Y2 := X2; obtain ⟨p2, q2, r2⟩ := Y2)
    | (at_builtin; refine append_step _ (w.heap.size + 1) (.tmp 30) (.tmp 33) _ _ _ _ 3 3 1 true rfl rfl rfl rfl (by simp) hown2 (by decide) hs2 ?_; intro g3 c3 w3 hown3 hs3 hb3; have X3 := boxed_kept X2 hb3; have Y3 := X3; obtain ⟨p3, q3, r3⟩ := Y3))
  go_ret
  exact ⟨_, rfl, hown3, (((B0.trans (hb1.mono (Nat.le_succ _))).trans (hb2.mono (Nat.le_succ _))).trans (hb3.mono (Nat.le_succ _)))⟩

theorem locks_any (l t e : Bool) (w : World) : Calls Try.prog 7 #[.agg #[.bool l, .bool t, .bool e]] w fun x w' => Gives w l t e x w' := by
  cases l <;> cases t
  · exact locks_ff e w
  · cases e
    · exact locks_ftf w
    · exact locks_ftt w
  · exact locks_tf e w
  · cases e
    · exact locks_ttf w
    · exact locks_ttt w

end Go.Proofs.Qxb6604790a
