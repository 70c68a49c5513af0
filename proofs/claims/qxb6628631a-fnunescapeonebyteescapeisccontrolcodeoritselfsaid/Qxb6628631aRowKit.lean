/-
  FROM THE READING OF A []byte TO 'ByteRow'.
-/
import Derived.Test.Qxb6628631aMem
import Derived.ProofKit
import Derived.OpenShut
import Derived.ShutString
import Derived.ChangeOld
namespace Go.Proofs.Qxb6628631a
open Go.ChangeShapes Go.WideShapes Go.ChangeAt Go.RowKit

theorem Try.own : ownKnob Try.prog.godebug = none := by kernel_rfl
theorem Try.laidOut : laidOutB Try.prog = true := by kernel_rfl
theorem Try.cells5 : Try.prog.cellsOf 5 = 1 := by kernel_rfl

theorem byteRow_of {H : Type} {enc : TypeId × Value → H} {W : World} {a : Option Addr} {len cap : Nat} {x : DataW H} {ps : List MemPlace}
    (h : DataW.Trod enc Try.prog W 0 (fun _ => true) true 22 (.slice a len cap) x ps) :
    ∃ Z, len ≤ 9223372036854775807 ∧ ByteRow W a len Z ∧ (a = none → len = 0 ∧ cap = 0) := by
  obtain ⟨fuel, hf⟩ := h
  rcases open_ints Try.underlying22 Try.underlying5 Try.cells5 hf with ⟨hcs, _⟩ | ⟨x, l, c, zs, hcs, _, hl, hm, hz, _, hcell, hwz⟩
  · simp [Value.cells] at hcs
    obtain ⟨rfl, rfl, rfl⟩ := hcs
    exact ⟨fun _ => 0, by omega, .inl rfl, fun _ => ⟨rfl, rfl⟩⟩
  · simp [Value.cells] at hcs
    obtain ⟨rfl, rfl, rfl⟩ := hcs
    simp only [if_true] at hz
    unfold maxLen at hm
    refine ⟨fun i => (zs.getD i 0).toNat, by omega, ?_, fun h => by cases h⟩
    by_cases hz0 : len = 0
    · exact .inl hz0
    · obtain ⟨b, off, spot⟩ := x
      have hspot : spot = none := by simpa [Addr.add] using World.cell?_spot (hcell 0 (by omega))
      subst hspot
      refine .inr ⟨b, off, rfl, fun i hi => ?_⟩
      have hi' : i < zs.length := by omega
      have hw := hwz (zs.getD i 0) (by rw [List.getD_eq_getElem?_getD, List.getElem?_eq_getElem hi']; simp)
      have hb := bounds_u8 hw
      have hc := hcell i hi'
      rw [add_plain] at hc
      rw [hc]
      refine ⟨?_, by show (zs.getD i 0).toNat < 256; omega⟩
      show some (Value.int .u8 (zs.getD i 0)) = some (Value.int .u8 (((zs.getD i 0).toNat : Nat) : Int))
      rw [Int.toNat_of_nonneg hb.1]

end Go.Proofs.Qxb6628631a
