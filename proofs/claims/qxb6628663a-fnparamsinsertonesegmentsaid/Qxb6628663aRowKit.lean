/-
  FROM THE READING OF A []Seg TO 'SegRow'.
-/
import Derived.Test.Qxb6628663aCalls
import Derived.ProofKit
import Derived.OpenShut
import Derived.ShutString
import Derived.ChangeOld
import Derived.Deep.Slices
import Derived.Lib.SmallJoins
namespace Go.Proofs.Qxb6628663a
open Go.ChangeShapes Go.WideShapes Go.ChangeAt Go.RowKit

theorem Try.own : ownKnob Try.prog.godebug = none := by kernel_rfl
theorem Try.laidOut : laidOutB Try.prog = true := by kernel_rfl
theorem Try.cells32 : Try.prog.cellsOf 32 = 4 := by kernel_rfl
theorem Try.cells9 : Try.prog.cellsOf 9 = 1 := by kernel_rfl

theorem cells_four {w : World} {a : Addr} {cs : List Value} (h : w.cells? 0 a 4 = some cs) :
    ∃ v0 v1 v2 v3, cs = [v0, v1, v2, v3] ∧ w.cell? (a.add 0) = some v0 ∧ w.cell? (a.add 1) = some v1 ∧ w.cell? (a.add 2) = some v2 ∧ w.cell? (a.add 3) = some v3 := by
  unfold World.cells? at h
  rw [if_pos (Nat.zero_le _)] at h
  have e : List.range 4 = [0, 1, 2, 3] := rfl
  rw [e] at h
  simp only [List.mapM_cons, List.mapM_nil, Option.bind_eq_bind, Option.bind_eq_some_iff, Option.pure_def] at h
  obtain ⟨v0, h0, r1, ⟨v1, h1, r2, ⟨v2, h2, r3, ⟨v3, h3, r4, e4, e3⟩, e2⟩, e1⟩, e0⟩ := h
  cases e4; cases e3; cases e2; cases e1; cases e0
  exact ⟨v0, v1, v2, v3, rfl, h0, h1, h2, h3⟩

/-- A cell that reads as a string holds one. -/
theorem str_of {H : Type} {enc : TypeId × Value → H} {W : World} {n : Nat} {v : Value} {y : DataW H × List MemPlace} (h : DataW.trod enc Try.prog W 0 (fun _ => true) true n 9 [v] = some y) : ∃ s : ByteArray, v = .string s ∧ s.size ≤ maxLen := by
  obtain ⟨s, h1, _, h3⟩ := DataW.trod_string Try.underlying9 h
  exact ⟨s, by simpa using h1, h3⟩

theorem segRow_of {H : Type} {enc : TypeId × Value → H} {W : World} {a : Option Addr} {len cap : Nat} {x : DataW H} {ps : List MemPlace}
    (h : DataW.Trod enc Try.prog W 0 (fun _ => true) true 22 (.slice a len cap) x ps) :
    ∃ S, len ≤ 9223372036854775807 ∧ len ≤ cap ∧ SegRow W a len S ∧ (a = none → len = 0 ∧ cap = 0) := by
  obtain ⟨fuel, hf⟩ := h
  rcases Go.Deep.open_slice Try.underlying22 hf with ⟨hcs, _⟩ | ⟨x, l, c, m, n, D, Pls, hcs, _, hl, hm, hmm, _, hx⟩
  · simp [Value.cells] at hcs
    obtain ⟨rfl, rfl, rfl⟩ := hcs
    exact ⟨fun _ _ => ByteArray.empty, by omega, by omega, .inl rfl, fun _ => ⟨rfl, rfl⟩⟩
  · simp [Value.cells] at hcs
    obtain ⟨rfl, rfl, rfl⟩ := hcs
    simp only [if_true] at hmm
    unfold maxLen at hm
    by_cases hz0 : len = 0
    · exact ⟨fun _ _ => ByteArray.empty, by omega, by omega, .inl hz0, fun h => by cases h⟩
    · obtain ⟨b, off, spot⟩ := x
      have hspot : spot = none := by
        obtain ⟨cs', h1, _⟩ := hx 0 (by omega)
        rw [Try.cells32] at h1
        obtain ⟨v0, v1, v2, v3, _, g0, _⟩ := cells_four h1
        simpa [Addr.add] using World.cell?_spot g0
      subst hspot
      have each : ∀ i, ∃ s : Nat → ByteArray, i < len → SegAt W b (off + i * 4) s := by
        intro i
        by_cases hi : i < len
        · obtain ⟨cs', h1, h2⟩ := hx i (by omega)
          rw [Try.cells32] at h1
          obtain ⟨v0, v1, v2, v3, rfl, g0, g1, g2, g3⟩ := cells_four h1
          obtain ⟨y0, y1, y2, y3, n', _, _, t0, t1, t2, t3⟩ := Go.Joins.trod_struct4 Try.underlying32 h2
          rw [add_plain, add_plain] at g0 g1 g2 g3
          obtain ⟨s0, rfl, _⟩ := str_of (v := v0) t0
          obtain ⟨s1, rfl, _⟩ := str_of (v := v1) t1
          obtain ⟨s2, rfl, _⟩ := str_of (v := v2) t2
          obtain ⟨s3, rfl, _⟩ := str_of (v := v3) t3
          exact ⟨fun f => if f = 0 then s0 else if f = 1 then s1 else if f = 2 then s2 else s3, fun _ => ⟨g0, g1, g2, g3⟩⟩
        · exact ⟨fun _ => ByteArray.empty, fun h => absurd h hi⟩
      obtain ⟨S, hS⟩ := Classical.skolem.mp each
      exact ⟨S, by omega, by omega, .inr ⟨b, off, rfl, hS⟩, fun h => by cases h⟩

end Go.Proofs.Qxb6628663a
