/-
  THE STATEMENT 'Rows.FnLocksEntryExistsOnlyDropsTheNextEntryWaitSaid', PROVED. The frame is the given shell's; the walk stands in Qxb6604790aOneWalk. By an AI agent.
  ONE TURN OF THE FRAME: behind an append the world is known to be as it was below the heap's old size ('Below'); nothing is said of new blocks, as 'Grown' would: so the row's 'post' is given limb by limb (the row does not say 'again').
-/
import Derived.Test.Qxb6604790aRows
import Derived.Test.Qxb6604790aOneWalk
import Derived.WalkKit
import Derived.ProofKit
import Derived.OpenShut
import Derived.ShutString
namespace Go.Proofs.Qxb6604790a.fnLocksEntryExistsOnlyDropsTheNextEntryWait
open Go.ChangeShapes Go.WideShapes Go.ChangeAt Go.RowKit
open Go.ChangeMaps (open_string shut_string)
set_option linter.unusedVariables false      -- a walk need not use every 'w<i>' (that an integer argument fits its kind)

theorem own : ownKnob Try.prog.godebug = none := by kernel_rfl

set_option maxRecDepth 100000 in
theorem lifted (os : Os) (started : os.Started) (H : Type) (enc : TypeId × Value → H) :
    ReturnsInHanded {} Try.checked os 3 .any (Rows.fnLocksEntryExistsOnlyDropsTheNextEntryWaitSpec.pre6 enc Try.prog Try.f3 Rows.fnLocksEntryExistsOnlyDropsTheNextEntryWaitRow.domain false) (Rows.fnLocksEntryExistsOnlyDropsTheNextEntryWaitSpec.post enc Try.prog Try.f3 false true false false) := by
  refine returnsInHanded_of_change (C := Try.checked) own started (by kernel_rfl) Try.func3
    (ChangeSpec.witness6 (enc := enc) (C := Try.checked) false ⟨#[], #[.bool false, .bool false], []⟩ 8 (by kernel_rfl) (by kernel_rfl) (by kernel_rfl) (by kernel_rfl)) ?_
  intro W base args ds gs before hval0 hW hcnd _
  have hval : ∀ (j : Nat) t v, Try.f3.params[j]? = some t → args[j]? = some v → Value.okWide Try.prog W .any base t v := hval0
  have hW' := hW
  obtain ⟨p, q, hA0, hV, rfl, hfz, hnd⟩ := hW
  have hA : DataW.TrodAll enc Try.prog W 0 (fun _ => true) true Try.f3.params.toList args.toList ds p := hA0
  rw [Try.params3] at hA hval
  obtain ⟨v0, vs0, d0, ds0, p0, q0, hargs, rfl, rfl, h0, r0⟩ := trodAll_cons hA
  obtain ⟨v1, vs1, d1, ds1, p1, q1, rfl, rfl, rfl, h1, r1⟩ := trodAll_cons r0
  obtain ⟨rfl, rfl, rfl⟩ := trodAll_nil r1
  obtain rfl : args = #[v0, v1] := by cases args; simp_all
  obtain ⟨rfl, rfl⟩ := trodVars_none hV
  obtain ⟨a0, rfl, rfl, rfl⟩ := open_bool Try.underlying4 (hval 0 4 v0 rfl rfl) h0
  obtain ⟨a1, rfl, rfl, rfl⟩ := open_bool Try.underlying4 (hval 1 4 v1 rfl rfl) h1
  clear hA0 hval0
  simp only [List.append_nil] at hW'
  refine (walk a0 a1 W).mono fun e W' ⟨he, hg⟩ => ?_
  subst he
  refine ⟨_, rfl, _, _, _, [], [], [], hW', ?_, ?_, rfl, hg.frame _, fun h => by cases h⟩
  · exact trodAll_cons_mk (shut_bool Try.underlying4 _) trodAll_mk0
  · exact trodAll_cons_mk (shut_bool Try.underlying4 _) (trodAll_cons_mk (shut_bool Try.underlying4 _) trodAll_mk0)

theorem over : Rows.fnLocksEntryExistsOnlyDropsTheNextEntryWaitRow.holds Try.pinned (OpenSpec.ofChange Rows.fnLocksEntryExistsOnlyDropsTheNextEntryWaitSpec) :=
  OpenClaim.holds_of_wide 3 Try.f3 rfl rfl rfl rfl rfl rfl rfl ⟨rfl, rfl, rfl, rfl, rfl⟩ rfl rfl rfl rfl rfl (by kernel_rfl) Try.func3 (by kernel_rfl)
    (of_decide_eq_true (by kernel_rfl)) (by unfold Func.isWrapper; first | (rw [if_pos (by decide +kernel)]; kernel_rfl) | (rw [if_neg (by decide +kernel)]; exact ⟨rfl, rfl⟩))
    (fun os started H enc _ => lifted os started H enc)

end Go.Proofs.Qxb6604790a.fnLocksEntryExistsOnlyDropsTheNextEntryWait

namespace Go.Proofs.Qxb6604790a
/-- THE STATEMENT. -/
theorem fnLocksEntryExistsOnlyDropsTheNextEntryWait_proved : Rows.FnLocksEntryExistsOnlyDropsTheNextEntryWaitSaid := fnLocksEntryExistsOnlyDropsTheNextEntryWait.over
#print axioms fnLocksEntryExistsOnlyDropsTheNextEntryWait_proved
end Go.Proofs.Qxb6604790a
