/-
  A ROW THAT THE CALL ITSELF FILLS, cell by cell ('p2[j] = p[j]'): small laws for the walk of 'FnHasInsertGrants'.
-/
import Derived.Test.Qxb6628544aMem
namespace Go.Proofs.Qxb6628544a
open Go.RowKit

theorem Pl.star_list : (⟨#[42]⟩ : ByteArray).toList = [42] := by decide +kernel

/-- The star is x: told from the side of x. -/
theorem Pl.star_eq (x : ByteArray) : ((⟨#[42]⟩ : ByteArray).toList == x.toList) = (x.toList == [42]) := by
  rw [Pl.star_list, Bool.eq_iff_iff, beq_iff_eq, beq_iff_eq]
  exact eq_comm

/-- The first N cells of block g hold V, and may be written. -/
structure Owned (w : World) (g N : Nat) (V : Nat → Value) : Prop where
  cell : ∀ t, t < N → w.cell? ⟨g, t, none⟩ = some (V t)
  free : ∀ t, t < N → w.frozen? ⟨g, t, none⟩ = false
  size : w.heap.size = g + 1

/-- One value set. -/
def upd (V : Nat → Value) (j : Nat) (v : Value) : Nat → Value := fun t => if t = j then v else V t
theorem upd_at (V : Nat → Value) (j : Nat) (v : Value) : upd V j v j = v := by simp [upd]
theorem upd_ne (V : Nat → Value) (j t : Nat) (v : Value) (h : t ≠ j) : upd V j v t = V t := by simp [upd, h]

theorem Owned.set {w : World} {g N : Nat} {V : Nat → Value} (h : Owned w g N V) (j : Nat) (hj : j < N) (v : Value) : Owned (w.setCell ⟨g, j, none⟩ v) g N (upd V j v) := by
  refine ⟨fun t ht => ?_, fun t ht => ?_, ?_⟩
  · by_cases e : t = j
    · subst e
      rw [upd_at]
      exact World.cell?_setCell_same _ _ _ (h.cell t ht)
    · rw [upd_ne _ _ _ _ e, World.cell?_setCell_other _ _ _ _ (by intro h; cases h; exact e rfl)]
      exact h.cell t ht
  · rw [World.frozen?_setCell]; exact h.free t ht
  · simpa [World.setCell] using h.size

theorem Owned.made (w : World) (z : Value) (N : Nat) (E : TypeId) : Owned (w.alloc (.cells (madeCells #[z] N) E)) w.heap.size N (fun _ => z) := by
  have hg : (w.alloc (.cells (madeCells #[z] N) E)).heap[w.heap.size]? = some (.cells (madeCells #[z] N) E (0, 0)) := heap_alloc_new w _
  refine ⟨fun t ht => ?_, fun t ht => ?_, by simp⟩
  · unfold World.cell?
    rw [hg]
    simp [madeCells, ht, Nat.mod_one]
  · unfold World.frozen?
    rw [hg]
    simp

theorem Owned.row {w : World} {g N : Nat} {V : Nat → Value} (h : Owned w g N V) {S : Nat → ByteArray} (hV : ∀ t, t < N → V t = .string (S t)) : StrRow w (some ⟨g, 0, none⟩) N S :=
  .inr ⟨g, 0, rfl, fun i hi => by rw [Nat.zero_add, h.cell i hi, hV i hi]⟩

theorem StrRow.below {w w' : World} {B : Nat} {a : Option Addr} {n : Nat} {S : Nat → ByteArray} (h : StrRow w a n S) (hb : Below B w w') (hB : w.heap.size ≤ B) : StrRow w' a n S := by
  rcases h with h | ⟨b, o, e, hc⟩
  · exact .inl h
  · refine .inr ⟨b, o, e, fun i hi => ?_⟩
    have := block_lt_of_cell (hc i hi)
    rw [hb.cell (by simp at this ⊢; omega)]
    exact hc i hi

end Go.Proofs.Qxb6628544a
