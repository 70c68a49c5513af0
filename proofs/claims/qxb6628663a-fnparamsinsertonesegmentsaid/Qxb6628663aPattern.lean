/-
  THE CONTRACT of zzPattern (function 7).
-/
import Derived.Test.Qxb6628663aParams
import Derived.BigRegion
import Derived.Laws.MakeOwn
namespace Go.Proofs.Qxb6628663a
open Go.RowKit

theorem Try.info37 : (Try.prog.info? 37).map (fun i => (i.zero, i.size, i.bytes)) = some (some (.agg #[.string ByteArray.empty, .string ByteArray.empty, .string ByteArray.empty, .string ByteArray.empty]), 4, 64) := by kernel_rfl

/-- 'make([]Segment, n)': for every world. -/
theorem make_segs (n : Nat) (hn : n ≤ 1048577) (w : World) :
    (Instr.makeSlice 26 (.int .i64 n) (.int .i64 n)).run Try.prog w = .ok (.slice (some ⟨w.heap.size, 0, none⟩) n n) (w.alloc (.cells (madeCells #[.string ByteArray.empty, .string ByteArray.empty, .string ByteArray.empty, .string ByteArray.empty] (n * 4)) 37)) := by
  obtain ⟨i, hi, hz, hs, hb⟩ := info_parts Try.info37
  have hr := run_make (P := Try.prog) w 26 37 i _ Try.underlying26 hi hz .i64 .i64 n n (by omega) (Int.le_refl _) (by rw [hb]; omega) (by omega)
  rw [hs] at hr
  simpa [Value.cells] using hr

/-- The first N cells of block g may be written, and hold something. -/
structure Owned (w : World) (g N : Nat) : Prop where
  cell : ∀ t, t < N → ∃ v, w.cell? ⟨g, t, none⟩ = some v
  free : ∀ t, t < N → w.frozen? ⟨g, t, none⟩ = false
  size : g < w.heap.size

theorem Owned.made (w : World) (z : Array Value) (N : Nat) (E : TypeId) : Owned (w.alloc (.cells (madeCells z N) E)) w.heap.size N := by
  have hg : (w.alloc (.cells (madeCells z N) E)).heap[w.heap.size]? = some (.cells (madeCells z N) E (0, 0)) := heap_alloc_new w _
  refine ⟨fun t ht => ⟨(madeCells z N)[t]'(by rw [size_madeCells]; exact ht), ?_⟩, fun t ht => ?_, by simp⟩
  · unfold World.cell?
    rw [hg]
    simp [ht, size_madeCells]
  · unfold World.frozen?
    rw [hg]
    simp

theorem Owned.set {w : World} {g N : Nat} (h : Owned w g N) (j : Nat) (v : Value) : Owned (w.setCell ⟨g, j, none⟩ v) g N := by
  refine ⟨fun t ht => ?_, fun t ht => ?_, by simpa [World.setCell] using h.size⟩
  · obtain ⟨x, hx⟩ := h.cell t ht
    by_cases e : t = j
    · subst e; exact ⟨v, World.cell?_setCell_same _ _ _ hx⟩
    · exact ⟨x, by rw [World.cell?_setCell_other _ _ _ _ (by intro h; cases h; exact e rfl)]; exact hx⟩
  · rw [World.frozen?_setCell]; exact h.free t ht

theorem Owned.drew {w : World} {g N : Nat} (h : Owned w g N) : Owned w.drew g N := ⟨fun t ht => h.cell t ht, fun t ht => h.free t ht, h.size⟩
theorem SegAt.drew {w : World} {b off : Nat} {s : Nat → ByteArray} (h : SegAt w b off s) : SegAt w.drew b off s := h
theorem cell?_drew' (w : World) (x : Addr) : w.drew.cell? x = w.cell? x := rfl
theorem frozen?_drew' (w : World) (x : Addr) : w.drew.frozen? x = w.frozen? x := rfl

/-- Four cells written. -/
def put (w : World) (g o : Nat) (s : Nat → ByteArray) : World :=
  (((w.setCell ⟨g, o, none⟩ (.string (s 0))).setCell ⟨g, o + 1, none⟩ (.string (s 1))).setCell ⟨g, o + 2, none⟩ (.string (s 2))).setCell ⟨g, o + 3, none⟩ (.string (s 3))
/-- Four cells written, and a draw: the world behind 'out[i] = Segment{..}'. -/
def put4 (w : World) (g o : Nat) (s : Nat → ByteArray) : World := (put w g o s).drew

theorem put4_owned {w : World} {g N o : Nat} {s : Nat → ByteArray} (h : Owned w g N) : Owned (put4 w g o s) g N := by
  have h4 := (((h.set o (.string (s 0))).set (o + 1) (.string (s 1))).set (o + 2) (.string (s 2))).set (o + 3) (.string (s 3))
  unfold put4 put
  exact h4.drew

theorem put4_other {w : World} {g o : Nat} {s : Nat → ByteArray} (x : Addr) (hx : x.block = g → x.off < o ∨ o + 4 ≤ x.off) : (put4 w g o s).cell? x = w.cell? x := by
  have ne : ∀ j, o ≤ j → j < o + 4 → (⟨g, j, none⟩ : Addr) ≠ x := by
    intro j h1 h2 e
    subst e
    have := hx rfl
    simp at this
    omega
  unfold put4 put
  rw [cell?_drew', World.cell?_setCell_other _ _ _ _ (ne _ (by omega) (by omega)), World.cell?_setCell_other _ _ _ _ (ne _ (by omega) (by omega)), World.cell?_setCell_other _ _ _ _ (ne _ (by omega) (by omega)), World.cell?_setCell_other _ _ _ _ (ne _ (by omega) (by omega))]

theorem put4_at {w : World} {g N o : Nat} {s : Nat → ByteArray} (h : Owned w g N) (ho : o + 4 ≤ N) : SegAt (put4 w g o s) g o s := by
  have ne : ∀ i j, i ≠ j → (⟨g, i, none⟩ : Addr) ≠ ⟨g, j, none⟩ := by
    intro i j hij e
    have := congrArg Addr.off e
    exact hij this
  have h1 := h.set o (.string (s 0))
  have h2 := h1.set (o + 1) (.string (s 1))
  have h3 := h2.set (o + 2) (.string (s 2))
  obtain ⟨x0, e0⟩ := h.cell o (by omega)
  obtain ⟨x1, e1⟩ := h1.cell (o + 1) (by omega)
  obtain ⟨x2, e2⟩ := h2.cell (o + 2) (by omega)
  obtain ⟨x3, e3⟩ := h3.cell (o + 3) (by omega)
  unfold put4
  refine SegAt.drew ⟨?_, ?_, ?_, ?_⟩
  · unfold put
    rw [World.cell?_setCell_other _ _ _ _ (ne _ _ (by omega)), World.cell?_setCell_other _ _ _ _ (ne _ _ (by omega)), World.cell?_setCell_other _ _ _ _ (ne _ _ (by omega))]
    exact World.cell?_setCell_same _ _ _ e0
  · unfold put
    rw [World.cell?_setCell_other _ _ _ _ (ne _ _ (by omega)), World.cell?_setCell_other _ _ _ _ (ne _ _ (by omega))]
    exact World.cell?_setCell_same _ _ _ e1
  · unfold put
    rw [World.cell?_setCell_other _ _ _ _ (ne _ _ (by omega))]
    exact World.cell?_setCell_same _ _ _ e2
  · unfold put
    exact World.cell?_setCell_same _ _ _ e3

theorem put4_frozen {w : World} {g o : Nat} {s : Nat → ByteArray} (x : Addr) : (put4 w g o s).frozen? x = w.frozen? x := by
  unfold put4 put
  rw [frozen?_drew', World.frozen?_setCell, World.frozen?_setCell, World.frozen?_setCell, World.frozen?_setCell]

theorem put4_below {B : Nat} {w wr : World} {g o : Nat} {s : Nat → ByteArray} (hb : Below B w wr) (hg : B ≤ g) : Below B w (put4 wr g o s) :=
  ((((hb.setCell (p := ⟨g, o, none⟩) hg _).setCell (p := ⟨g, o + 1, none⟩) hg _).setCell (p := ⟨g, o + 2, none⟩) hg _).setCell (p := ⟨g, o + 3, none⟩) hg _).drew

theorem put4_seg {w : World} {g o : Nat} {s t : Nat → ByteArray} {j : Nat} (h : SegAt w g j t) (hj : j + 4 ≤ o) : SegAt (put4 w g o s) g j t :=
  ⟨(put4_other _ (fun _ => .inl (by simp; omega))).trans h.1, (put4_other _ (fun _ => .inl (by simp; omega))).trans h.2.1, (put4_other _ (fun _ => .inl (by simp; omega))).trans h.2.2.1, (put4_other _ (fun _ => .inl (by simp; omega))).trans h.2.2.2⟩

/-- The Pattern came back: a row of the call's own that holds the segments (or nil for nil). -/
def PatOut (n : Nat) (S : Nat → Nat → ByteArray) (w : World) (e : Ending) (w' : World) : Prop := ∃ a c, e = .returned (.agg #[.slice a n c]) ∧ SegRow w' a n S ∧ Below w.heap.size w w'

set_option maxHeartbeats 1000000 in
theorem f7_any (a : Option Addr) (n c : Nat) (S : Nat → Nat → ByteArray) (w : World) (hn : n ≤ 1048577) (ha : SegRow w a n S) (hnil : a = none → n = 0 ∧ c = 0) :
    Calls Try.prog 7 #[.slice a n c] w (PatOut n S w) := by
  have qn : ∀ (w : World) (a : Option Addr) (n c n' c' : Nat), (binOp .eql 22 (.slice a n c) (.slice none n' c')).run Try.prog w = .ok (.bool a.isNone) w := fun w a n c n' c' => Lib.run_eql_slice_nil w _ _ a n c n' c' Try.underlying22
  cases a with
  | none =>
    obtain ⟨rfl, rfl⟩ := hnil rfl
    go_enter Try.func7, Try.ntmps7
    go_wp2
    refine bodyPost_ret (v := .agg #[.slice none 0 0]) (by simp [results, Try.results7, go_sem]) rfl ⟨none, 0, rfl, .inl rfl, ?_⟩
    exact (Below.refl _ _).alloc (Nat.le_refl _) _
  | some ad =>
    have hmk := make_segs n hn
    go_enter Try.func7, Try.ntmps7
    go_wp2
    have hB0 : Below w.heap.size w ((w.alloc (.cells #[.slice none 0 0] 28)).alloc (.cells (madeCells #[.string ByteArray.empty, .string ByteArray.empty, .string ByteArray.empty, .string ByteArray.empty] (n * 4)) 37)) :=
      ((Below.refl _ _).alloc (Nat.le_refl _) _).alloc (by simp) _
    have hO0 := Owned.made (w.alloc (.cells #[.slice none 0 0] 28)) #[.string ByteArray.empty, .string ByteArray.empty, .string ByteArray.empty, .string ByteArray.empty] (n * 4) 37
    rw [show (w.alloc (.cells #[.slice none 0 0] 28)).heap.size = w.heap.size + 1 from by simp] at hO0
    have hR0 : ((w.alloc (.cells #[.slice none 0 0] 28)).alloc (.cells (madeCells #[.string ByteArray.empty, .string ByteArray.empty, .string ByteArray.empty, .string ByteArray.empty] (n * 4)) 37)).cell? ⟨w.heap.size, 0, none⟩ = some (.slice none 0 0) := by simp
    have hF0 : ((w.alloc (.cells #[.slice none 0 0] 28)).alloc (.cells (madeCells #[.string ByteArray.empty, .string ByteArray.empty, .string ByteArray.empty, .string ByteArray.empty] (n * 4)) 37)).frozen? ⟨w.heap.size, 0, none⟩ = false := by simp
    generalize (w.alloc (.cells #[.slice none 0 0] 28)).alloc (.cells (madeCells #[.string ByteArray.empty, .string ByteArray.empty, .string ByteArray.empty, .string ByteArray.empty] (n * 4)) 37) = w2 at *
    go_loopw [4] (fun i wr => ∃ k : Nat, k ≤ n ∧ i = .int .i64 k ∧ Owned wr (w.heap.size + 1) (n * 4) ∧ Hid (∀ j, j < k → SegAt wr (w.heap.size + 1) (j * 4) (S j)) ∧ Below w.heap.size w wr ∧ wr.cell? ⟨w.heap.size, 0, none⟩ = some (.slice none 0 0) ∧ wr.frozen? ⟨w.heap.size, 0, none⟩ = false)
      (fun i _ => n - (intOf i).toNat)
    case atStart => exact ⟨0, Nat.zero_le _, rfl, hO0, fun j hj => by omega, hB0, hR0, hF0⟩
    case round =>
      clear hB0 hO0 hR0 hF0
      obtain ⟨k, hk, rfl, hO, HS, hb, hr, hfr⟩ := hrel
      have hszr := hb.size
      by_cases hlt : k < n
      · rcases ha with h0 | ⟨b, off, e, hc⟩
        · omega
        cases e
        have hblt := (hc k hlt).lt
        obtain ⟨c0, c1, c2, c3⟩ := (hc k hlt).below hb (hc k hlt).lt
        obtain ⟨x0, y0⟩ := hO.cell (k * 4) (by omega)
        obtain ⟨x1, y1⟩ := hO.cell (k * 4 + 1) (by omega)
        obtain ⟨x2, y2⟩ := hO.cell (k * 4 + 2) (by omega)
        obtain ⟨x3, y3⟩ := hO.cell (k * 4 + 3) (by omega)
        have z0 := hO.free (k * 4) (by omega)
        have z1 := hO.free (k * 4 + 1) (by omega)
        have z2 := hO.free (k * 4 + 2) (by omega)
        have z3 := hO.free (k * 4 + 3) (by omega)
        have l1 : (k : Int) < n := by omega
        have hO' := hO
        clear hc hO
        go_wp2
        go_region
        go_wp2
        go_roundw
        case rel =>
          show ∃ k_1 : Nat, k_1 ≤ n ∧ Value.int .i64 ((k : Int) + 1) = .int .i64 k_1 ∧ Owned (put4 wr (w.heap.size + 1) (k * 4) (S k)) (w.heap.size + 1) (n * 4) ∧ Hid (∀ j, j < k_1 → SegAt (put4 wr (w.heap.size + 1) (k * 4) (S k)) (w.heap.size + 1) (j * 4) (S j)) ∧
            Below w.heap.size w (put4 wr (w.heap.size + 1) (k * 4) (S k)) ∧ (put4 wr (w.heap.size + 1) (k * 4) (S k)).cell? ⟨w.heap.size, 0, none⟩ = some (.slice none 0 0) ∧ (put4 wr (w.heap.size + 1) (k * 4) (S k)).frozen? ⟨w.heap.size, 0, none⟩ = false
          refine ⟨k + 1, by omega, by go_num, put4_owned hO', fun j hj => ?_, put4_below hb (by omega), ?_, ?_⟩
          · by_cases e : j = k
            · subst e; exact put4_at hO' (by omega)
            · exact put4_seg (HS.out j (by omega)) (by omega)
          · rw [put4_other _ (fun h => by simp at h)]; exact hr
          · rw [put4_frozen]; exact hfr
        case measure => simp [intOf]; omega
      · have hkn : k = n := by omega
        have hfin : SegRow (wr.setCell ⟨w.heap.size, 0, none⟩ (.slice (some ⟨w.heap.size + 1, 0, none⟩) n n)) (some ⟨w.heap.size + 1, 0, none⟩) n S := by
          refine .inr ⟨w.heap.size + 1, 0, rfl, fun i hi => ?_⟩
          rw [Nat.zero_add]
          have h := HS.out i (by omega)
          have ne : ∀ o, (⟨w.heap.size, 0, none⟩ : Addr) ≠ ⟨w.heap.size + 1, o, none⟩ := fun o e => by have := congrArg Addr.block e; simp at this
          exact ⟨by rw [World.cell?_setCell_other _ _ _ _ (ne _)]; exact h.1, by rw [World.cell?_setCell_other _ _ _ _ (ne _)]; exact h.2.1, by rw [World.cell?_setCell_other _ _ _ _ (ne _)]; exact h.2.2.1, by rw [World.cell?_setCell_other _ _ _ _ (ne _)]; exact h.2.2.2⟩
        have hcv : (wr.setCell ⟨w.heap.size, 0, none⟩ (.slice (some ⟨w.heap.size + 1, 0, none⟩) n n)).cell? ⟨w.heap.size, 0, none⟩ = some (.slice (some ⟨w.heap.size + 1, 0, none⟩) n n) := World.cell?_setCell_same _ _ _ hr
        have hBf : Below w.heap.size w (wr.setCell ⟨w.heap.size, 0, none⟩ (.slice (some ⟨w.heap.size + 1, 0, none⟩) n n)) := hb.setCell (Nat.le_refl _) _
        clear hkn
        go_wp2
        refine bodyPost_ret (v := .agg #[.slice (some ⟨w.heap.size + 1, 0, none⟩) n n]) (by simp [results, Try.results7, go_sem, hcv]) rfl ⟨_, _, rfl, hfin, hBf⟩

end Go.Proofs.Qxb6628663a
