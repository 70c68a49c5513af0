/-
  SMALL LAWS ON MEMORY for the two walks of seat b6628631a: rows of bytes, a copy into a row of its own; the contract of isHexEscape (10).
-/
import Derived.Test.Qxb6628631aUnesc
import Derived.Laws.CopyOwn
import Derived.Deep.OwnRows
namespace Go.Proofs.Qxb6628631a
open Go.RowKit

theorem Try.info5 : (Try.prog.info? 5).map (fun i => (i.zero, i.size, i.bytes)) = some (some (.int .u8 0), 1, 1) := by kernel_rfl
theorem Try.size5 : (Try.prog.info? 5).map (·.size) = some 1 := by kernel_rfl

/-- The law's end: true; nothing that was there has turned. -/
def LawOut (w : World) (e : Ending) (w' : World) : Prop := e = .returned (.bool true) ∧ Below w.heap.size w w'

theorem below_drewN' (B : Nat) (w : World) (q : Nat) : Below B w (w.drewN q) := ⟨rfl, rfl, rfl, Nat.le_refl _, fun _ _ => rfl⟩
theorem addr_add (b o i : Nat) : (⟨b, o, none⟩ : Addr).add i = ⟨b, o + i, none⟩ := by unfold Addr.add; split <;> simp_all

/-- The bytes as cells. -/
def cellsOf (n : Nat) (Z : Nat → Nat) : List Value := (List.range n).map fun i => .int .u8 (Z i)
theorem cellsOf_length (n : Nat) (Z : Nat → Nat) : (cellsOf n Z).length = n := by simp [cellsOf]
theorem cellsOf_get (n : Nat) (Z : Nat → Nat) (i : Nat) (h : i < n) : (cellsOf n Z)[i]? = some (.int .u8 (Z i)) := by simp [cellsOf, h]
theorem cellsOf_one (n : Nat) (Z : Nat → Nat) : ∀ v ∈ cellsOf n Z, v.oneCell' = true := by
  intro v hv
  simp only [cellsOf, List.mem_map] at hv
  obtain ⟨i, _, rfl⟩ := hv
  rfl

theorem ByteRow.src {w : World} {a : Addr} {n : Nat} {Z : Nat → Nat} (h : ByteRow w (some a) n Z) : ∀ j v, (cellsOf n Z)[j]? = some v → w.cell? (a.add j) = some v := by
  intro j v hj
  have hlt : j < n := by have := (List.getElem?_eq_some_iff.1 hj).1; simpa [cellsOf] using this
  rw [cellsOf_get n Z j hlt] at hj
  cases hj
  rcases h with h | ⟨b, o, e, hc⟩
  · omega
  · cases e
    rw [addr_add]
    exact (hc j hlt).1

/-- A block known whole: its cells. -/
theorem cell_of_row {w : World} {g : Nat} {t : TypeId} {fr : Nat × Nat} {cs : List Value} {v : Value} (h : w.heap[g]? = some (.cells cs.toArray t fr)) (i : Nat) (hc : cs[i]? = some v) : w.cell? ⟨g, i, none⟩ = some v := by
  simp [World.cell?, h, hc]
theorem free_of_row {w : World} {g : Nat} {t : TypeId} {cs : Array Value} (h : w.heap[g]? = some (.cells cs t (0, 0))) (i : Nat) : w.frozen? ⟨g, i, none⟩ = false := by
  simp [World.frozen?, h]

/-- 'zzc := make([]T, len(p)); copy(zzc, p)': THE COPY, into the row that 'make' has just laid: the row then holds what p's cells hold; nothing else has turned. -/
theorem copy_made {P : Program} (w1 : World) (T E ty : TypeId) (hu : P.underlying T = some (.slice E)) (hs : (P.info? E).map (·.size) = some 1) (z : Value) (n c : Nat) (ad : Addr) (cs : List Value) (hlen : cs.length = n)
    (hsrc : ∀ j v, cs[j]? = some v → w1.cell? (ad.add j) = some v) (h1 : ∀ v ∈ cs, v.oneCell' = true) :
    ∃ w2, (Builtin.copy_ #[T, T] ty #[.slice (some ⟨w1.heap.size, 0, none⟩) n n, .slice (some ad) n c]).run P (w1.alloc (.cells (madeCells #[z] n) E)) = .ok (.int .i64 n) w2 ∧
      w2.heap[w1.heap.size]? = some (.cells cs.toArray E (0, 0)) ∧ Below w1.heap.size w1 w2 ∧ w2.heap.size = w1.heap.size + 1 := by
  have hB : Below w1.heap.size w1 (w1.alloc (.cells (madeCells #[z] n) E)) := (Below.refl _ _).alloc (Nat.le_refl _) _
  have hg : (w1.alloc (.cells (madeCells #[z] n) E)).heap[w1.heap.size]? = some (.cells (madeCells #[z] n) E (0, 0)) := heap_alloc_new w1 _
  have hz : (w1.alloc (.cells (madeCells #[z] n) E)).heap.size = w1.heap.size + 1 := by simp
  have hsrc' : ∀ j v, cs[j]? = some v → (w1.alloc (.cells (madeCells #[z] n) E)).cell? (ad.add j) = some v := fun j v hj => by
    have := hsrc j v hj
    rw [hB.cell (block_lt_of_cell this)]
    exact this
  have hrun := run_copy_row (P := P) (w1.alloc (.cells (madeCells #[z] n) E)) T T ty E w1.heap.size 0 n n ad n c _ E cs hu hs hg (by rw [hlen]; exact (Nat.min_self n).symm) hsrc' (by rw [size_madeCells, hlen]; omega) h1
  refine ⟨_, by rw [hrun, hlen]; rfl, ?_, below_setRow hB (Nat.le_refl _) _, by rw [← hz]; simp [World.setRow]⟩
  rw [setRow_heap _ _ _ _ _ _ hg]
  have e1 : List.drop (0 + n) (madeCells #[z] n).toList = [] := List.drop_eq_nil_of_le (by simp [size_madeCells])
  rw [e1]
  simp

/-- Is it an escape with two digits? -/
def HexOut (n : Nat) (Z : Nat → Nat) (w : World) (e : Ending) (w' : World) : Prop := e = .returned (.bool (Pl.hexEsc n Z)) ∧ w = w'

set_option maxHeartbeats 1000000 in
theorem f10_any (b off n c : Nat) (Z : Nat → Nat) (w : World) (hn : 1 ≤ n) (hn' : n ≤ 1048576) (hc : ∀ i, i < n → w.cell? ⟨b, off + i, none⟩ = some (.int .u8 (Z i)) ∧ Z i < 256) :
    Calls Try.prog 10 #[.slice (some ⟨b, off, none⟩) n c] w (HexOut n Z w) := by
  have l1 : (0 : Int) < (n : Int) := by omega
  have h0 : w.cell? ⟨b, off, none⟩ = some (.int .u8 (Z 0)) := (hc 0 (by omega)).1
  by_cases h3 : 3 ≤ n
  · have l2 : (1 : Int) < (n : Int) := by omega
    have l3 : (2 : Int) < (n : Int) := by omega
    have l4 : ¬ (n : Int) < 3 := by omega
    have h1 := (hc 1 (by omega)).1
    have h2 := (hc 2 (by omega)).1
    have b1 := (hc 1 (by omega)).2
    have b2 := (hc 2 (by omega)).2
    clear hc
    by_cases hx : Z 0 = 120
    · have e : Hid (Pl.hexEsc n Z = (Pl.isHexB (Z 1) && Pl.isHexB (Z 2))) := by show _ = _; simp [Pl.hexEsc, hx, h3]
      rw [hx] at h0
      clear hx
      generalize Z 1 = z1 at *
      generalize Z 2 = z2 at *
      go_enter Try.func10, Try.ntmps10
      go_wp2_with fail
      refine (f7_any z1 b1 _).mono ?_
      rintro e' w' ⟨rfl, ⟨x1, rfl⟩ | ⟨x1, rfl⟩⟩
      all_goals
        go_wp2_with fail
        refine (f7_any z2 b2 _).mono ?_
        rintro e' w' ⟨rfl, ⟨x2, rfl⟩ | ⟨x2, rfl⟩⟩
      all_goals
        go_wp2
        go_ret
        exact ⟨by rw [e.out, x1, x2]; rfl, rfl⟩
    · have e : Hid (Pl.hexEsc n Z = false) := by show _ = _; simp [Pl.hexEsc, hx]
      have qx : ((Z 0 : Int) == 120) = false := by rw [beq_eq_false_iff_ne]; omega
      have qx' : ((Z 0 : Int) != 120) = true := by rw [bne_iff_ne]; omega
      go_enter Try.func10, Try.ntmps10
      go_wp2
      go_ret
      exact ⟨by rw [e.out]; rfl, rfl⟩
  · have l4 : (n : Int) < 3 := by omega
    have e : Hid (Pl.hexEsc n Z = false) := by show _ = _; simp [Pl.hexEsc, h3]
    clear hc
    go_enter Try.func10, Try.ntmps10
    go_wp2
    go_ret
    exact ⟨by rw [e.out]; rfl, rfl⟩

end Go.Proofs.Qxb6628631a
