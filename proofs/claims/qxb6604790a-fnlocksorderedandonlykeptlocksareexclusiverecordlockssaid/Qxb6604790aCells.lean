/-
  FROM 'ownsRow' TO CELLS: what the laws' walks ask of the slices that Locks hands back. By an AI agent.
-/
import Derived.Test.Qxb6604790aLocks
import Derived.Deep.Draws
namespace Go.Proofs.Qxb6604790a
open Go.RowKit

/-- Block g is there and its first cells are xs. -/
def Row (w : World) (g : Nat) (xs : List Value) : Prop := g < w.heap.size ∧ ∀ j, j < xs.length → w.cell? ⟨g, j, none⟩ = xs[j]?

theorem row_of {w : World} {base n : Nat} {v : Value} {xs : List Value} (h : w.ownsRow base 32 6 v n xs) (hn : 0 < n) :
    ∃ g cap, v = .slice (some ⟨g, 0, none⟩) n cap ∧ Row w g xs := by
  have h0 := h
  rcases h.2 with ⟨_, h'⟩ | ⟨g, cap, cur, rfl, _, hg, _⟩
  · omega
  · refine ⟨g, cap, rfl, (Array.getElem?_eq_some_iff.1 hg).1, fun j hj => ?_⟩
    rw [h0.1] at hj
    exact h0.cellAt j hj

theorem Row.kept {w w' : World} {B g : Nat} {xs : List Value} (h : Row w g xs) (hb : Below B w w') (hB : g < B) : Row w' g xs :=
  ⟨Nat.lt_of_lt_of_le h.1 hb.size, fun j hj => (hb.cell hB).trans (h.2 j hj)⟩

/-- The six cells of the step number i; their offsets are given as numerals, as the walk spells them. -/
theorem Row.six {w : World} {g : Nat} {xs : List Value} (h : Row w g xs) (i o0 o1 o2 o3 o4 o5 : Nat) (on mode kind : Int) (keep : Bool) (ho : [o0, o1, o2, o3, o4, o5] = [6 * i, 6 * i + 1, 6 * i + 2, 6 * i + 3, 6 * i + 4, 6 * i + 5])
    (hl : 6 * i + 6 ≤ xs.length) (hx : (xs.drop (6 * i)).take 6 = stepCells on mode kind keep) :
    w.cell? ⟨g, o0, none⟩ = some (.int .u8 on) ∧ w.cell? ⟨g, o1, none⟩ = some (.int .u8 mode) ∧ w.cell? ⟨g, o2, none⟩ = some (.int .u8 kind) ∧
    w.cell? ⟨g, o3, none⟩ = some (.bool keep) ∧ w.cell? ⟨g, o4, none⟩ = some (.bool false) ∧ w.cell? ⟨g, o5, none⟩ = some (.bool false) := by
  have e : ∀ j, j < 6 → xs[6 * i + j]? = (stepCells on mode kind keep)[j]? := by
    intro j hj
    rw [← hx, List.getElem?_take, if_pos hj, List.getElem?_drop]
  simp only [List.cons.injEq, and_true] at ho
  obtain ⟨rfl, rfl, rfl, rfl, rfl, rfl⟩ := ho
  refine ⟨?_, ?_, ?_, ?_, ?_, ?_⟩
  · exact (h.2 (6 * i) (by omega)).trans (e 0 (by omega))
  · exact (h.2 _ (by omega)).trans (e 1 (by omega))
  · exact (h.2 _ (by omega)).trans (e 2 (by omega))
  · exact (h.2 _ (by omega)).trans (e 3 (by omega))
  · exact (h.2 _ (by omega)).trans (e 4 (by omega))
  · exact (h.2 _ (by omega)).trans (e 5 (by omega))

/-- A slice of the call's own, of whatever length, is a slice value of that length. -/
theorem slice_of {w : World} {base n : Nat} {v : Value} {xs : List Value} (h : w.ownsRow base 32 6 v n xs) : ∃ ao cap, v = .slice ao n cap := by
  rcases h.2 with ⟨rfl, rfl⟩ | ⟨g, cap, _, rfl, _⟩
  · exact ⟨none, 0, rfl⟩
  · exact ⟨_, cap, rfl⟩

theorem below_drewN {B : Nat} {a w : World} (h : Below B a w) (n : Nat) : Below B a (w.drewN n) := ⟨h.os, h.tape, h.output, h.size, h.block⟩

end Go.Proofs.Qxb6604790a
