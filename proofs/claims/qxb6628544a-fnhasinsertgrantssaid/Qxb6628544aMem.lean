/-
  SMALL LAWS ON MEMORY for the two walks: rows of strings, a copy into a row of its own.
-/
import Derived.Test.Qxb6628544aCalls
import Derived.Laws.CopyOwn
import Derived.Deep.OwnRows
namespace Go.Proofs.Qxb6628544a
open Go.RowKit

theorem Try.info9 : (Try.prog.info? 9).map (fun i => (i.zero, i.size, i.bytes)) = some (some (.string ByteArray.empty), 1, 16) := by kernel_rfl
theorem Try.size9 : (Try.prog.info? 9).map (·.size) = some 1 := by kernel_rfl

/-- The law's end: true; nothing that was there has turned. -/
def LawOut (w : World) (e : Ending) (w' : World) : Prop := e = .returned (.bool true) ∧ Below w.heap.size w w'

theorem below_drewN' (B : Nat) (w : World) (q : Nat) : Below B w (w.drewN q) := ⟨rfl, rfl, rfl, Nat.le_refl _, fun _ _ => rfl⟩

theorem StrRow.drewN {w : World} {a : Option Addr} {n : Nat} {S : Nat → ByteArray} (h : StrRow w a n S) (q : Nat) : StrRow (w.drewN q) a n S := h

theorem addr_add (b o i : Nat) : (⟨b, o, none⟩ : Addr).add i = ⟨b, o + i, none⟩ := by unfold Addr.add; split <;> simp_all

/-- A row of its own that holds the strings' values. -/
theorem StrRow.made {w : World} {g n : Nat} {S : Nat → ByteArray} {t : TypeId} {fr : Nat × Nat} {cs : List Value} (h : w.heap[g]? = some (.cells cs.toArray t fr)) (hc : ∀ i, i < n → cs[i]? = some (.string (S i))) : StrRow w (some ⟨g, 0, none⟩) n S := by
  refine .inr ⟨g, 0, rfl, fun i hi => ?_⟩
  rw [Nat.zero_add]
  simp [World.cell?, h, hc i hi]

theorem StrRow.part {w : World} {g n : Nat} {S : Nat → ByteArray} {off : Nat} (h : StrRow w (some ⟨g, off, none⟩) n S) (k m : Nat) (hk : k + m ≤ n) : StrRow w (some ⟨g, off + k, none⟩) m (fun i => S (k + i)) := by
  rcases h with h | ⟨b, o, e, hc⟩
  · exact .inl (by omega)
  · simp only [Option.some.injEq, Addr.mk.injEq] at e
    obtain ⟨rfl, rfl, _⟩ := e
    exact .inr ⟨g, off + k, rfl, fun i hi => by rw [Nat.add_assoc]; exact hc (k + i) (by omega)⟩

theorem StrRow.front {w : World} {a : Option Addr} {n : Nat} {S : Nat → ByteArray} (h : StrRow w a n S) (k : Nat) (hk : k ≤ n) : StrRow w a k S := by
  rcases h with h | ⟨b, o, e, hc⟩
  · exact .inl (by omega)
  · exact .inr ⟨b, o, e, fun i hi => hc i (by omega)⟩

/-- What is copied over a row of the same length is the row. -/
theorem splice_all (L cs : List Value) (h : L.length = cs.length) : splice L 0 cs = cs := by
  simp [splice, List.drop_eq_nil_of_le (Nat.le_of_eq h)]

/-- The strings as cells. -/
def cellsOf (n : Nat) (S : Nat → ByteArray) : List Value := (List.range n).map fun i => .string (S i)
theorem cellsOf_length (n : Nat) (S : Nat → ByteArray) : (cellsOf n S).length = n := by simp [cellsOf]
theorem cellsOf_get (n : Nat) (S : Nat → ByteArray) (i : Nat) (h : i < n) : (cellsOf n S)[i]? = some (.string (S i)) := by simp [cellsOf, h]
theorem cellsOf_one (n : Nat) (S : Nat → ByteArray) : ∀ v ∈ cellsOf n S, v.oneCell' = true := by
  intro v hv
  simp only [cellsOf, List.mem_map] at hv
  obtain ⟨i, _, rfl⟩ := hv
  rfl

theorem StrRow.src {w : World} {a : Addr} {n : Nat} {S : Nat → ByteArray} (h : StrRow w (some a) n S) : ∀ j v, (cellsOf n S)[j]? = some v → w.cell? (a.add j) = some v := by
  intro j v hj
  have hlt : j < n := by have := (List.getElem?_eq_some_iff.1 hj).1; simpa [cellsOf] using this
  rw [cellsOf_get n S j hlt] at hj
  cases hj
  rcases h with h | ⟨b, o, e, hc⟩
  · omega
  · cases e
    rw [addr_add]
    exact hc j hlt

/-- 'zzc := make([]T, len(p)); copy(zzc, p)': THE COPY, into the row that 'make' has just laid: the row then holds what p's cells hold; nothing else has turned. -/
theorem copy_made {P : Program} (w1 : World) (T E ty : TypeId) (hu : P.underlying T = some (.slice E)) (hs : (P.info? E).map (·.size) = some 1) (z : Value) (n c : Nat) (ad : Addr) (cs : List Value) (hlen : cs.length = n)
    (hsrc : ∀ j v, cs[j]? = some v → w1.cell? (ad.add j) = some v) (h1 : ∀ v ∈ cs, v.oneCell' = true) :
    ∃ w2, (Builtin.copy_ #[T, T] ty #[.slice (some ⟨w1.heap.size, 0, none⟩) n n, .slice (some ad) n c]).run P (w1.alloc (.cells (madeCells #[z] n) E)) = .ok (.int .i64 n) w2 ∧
      w2.heap[w1.heap.size]? = some (.cells cs.toArray E (0, 0)) ∧ Below w1.heap.size w1 w2 ∧ w2.heap.size = w1.heap.size + 1 := by
  have hB : Below w1.heap.size w1 (w1.alloc (.cells (madeCells #[z] n) E)) := (Below.refl _ _).alloc (Nat.le_refl _) _
  have hg : (w1.alloc (.cells (madeCells #[z] n) E)).heap[w1.heap.size]? = some (.cells (madeCells #[z] n) E (0, 0)) := heap_alloc_new w1 _
  have hz : (w1.alloc (.cells (madeCells #[z] n) E)).heap.size = w1.heap.size + 1 := by simp
  have hsrc' : ∀ j v, cs[j]? = some v → (w1.alloc (.cells (madeCells #[z] n) E)).cell? (ad.add j) = some v := fun j v hj => by
    have := hsrc j v hj
    rw [hB.cell (block_lt_of_cell this)]
    exact this
  have hrun := run_copy_row (P := P) (w1.alloc (.cells (madeCells #[z] n) E)) T T ty E w1.heap.size 0 n n ad n c _ E cs hu hs hg (by rw [hlen]; exact (Nat.min_self n).symm) hsrc' (by rw [size_madeCells, hlen]; omega) h1
  refine ⟨_, by rw [hrun, hlen]; rfl, ?_, below_setRow hB (Nat.le_refl _) _, by rw [← hz]; simp [World.setRow]⟩
  rw [setRow_heap _ _ _ _ _ _ hg]
  have e1 : List.drop (0 + n) (madeCells #[z] n).toList = [] := List.drop_eq_nil_of_le (by simp [size_madeCells])
  rw [e1]
  simp

end Go.Proofs.Qxb6628544a
