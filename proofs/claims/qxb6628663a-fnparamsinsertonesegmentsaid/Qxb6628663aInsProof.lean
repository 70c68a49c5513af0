/-
  THE ROW of 'FnParamsInsertOneSegment' (function 4).
-/
import Derived.Test.Qxb6628663aRowKit
import Derived.Test.Qxb6628663aInsWalk
namespace Go.Proofs.Qxb6628663a.fnParamsInsertOneSegment
open Go.ChangeShapes Go.WideShapes Go.ChangeAt Go.RowKit
set_option linter.unusedVariables false

set_option maxRecDepth 100000 in
theorem lifted (os : Os) (started : os.Started) (H : Type) (enc : TypeId × Value → H) :
    ReturnsInHanded {} Try.checked os 4 .any (Rows.fnParamsInsertOneSegmentSpec.pre6 enc Try.prog Try.f4 Rows.fnParamsInsertOneSegmentRow.domain false) (Rows.fnParamsInsertOneSegmentSpec.post enc Try.prog Try.f4 false true false false) := by
  refine returnsInHanded_of_change (C := Try.checked) Try.own started (by kernel_rfl) Try.func4
    (ChangeSpec.witness6 (enc := enc) (C := Try.checked) false ⟨#[], #[.slice none 0 0, .int .i64 0, .agg #[.string ByteArray.empty, .string ByteArray.empty, .string ByteArray.empty, .string ByteArray.empty]], []⟩ 8 (by kernel_rfl) (by kernel_rfl) (by kernel_rfl) (by kernel_rfl)) ?_
  intro W base args ds gs before hval0 hW hcnd _
  have hval : ∀ (j : Nat) t v, Try.f4.params[j]? = some t → args[j]? = some v → Value.okWide Try.prog W .any base t v := hval0
  have hW' := hW
  obtain ⟨p, q, hA0, hV, rfl, hfz, hnd⟩ := hW
  have hA : DataW.TrodAll enc Try.prog W 0 (fun _ => true) true Try.f4.params.toList args.toList ds p := hA0
  rw [Try.params4] at hA hval
  obtain ⟨v0, vs0, d0, ds0, p0, q0, hargs, rfl, rfl, h0, r0⟩ := trodAll_cons hA
  obtain ⟨v1, vs1, d1, ds1, p1, q1, rfl, rfl, rfl, h1, r1⟩ := trodAll_cons r0
  obtain ⟨v2, vs2, d2, ds2, p2, q2, rfl, rfl, rfl, h2, r2⟩ := trodAll_cons r1
  obtain ⟨rfl, rfl, rfl⟩ := trodAll_nil r2
  obtain rfl : args = #[v0, v1, v2] := by cases args; simp_all
  obtain ⟨rfl, rfl⟩ := trodVars_none hV
  obtain ⟨k, rfl, rfl, rfl, wk⟩ := open_int Try.underlying3 (hval 1 3 v1 rfl rfl) h1
  obtain ⟨a0, len0, cap0, rfl⟩ := okWide_slice Try.underlying22 (hval 0 22 v0 rfl rfl)
  have k0 := h0
  have lt0 : ∀ x ∈ p0, x.block < W.heap.size := by obtain ⟨m, hm⟩ := k0; exact DataW.trod_lt m _ _ _ hm
  obtain ⟨S, hn0, hc0, w0, hnil0⟩ := segRow_of h0
  have k2 := h2
  have lt2 : ∀ x ∈ p2, x.block < W.heap.size := by obtain ⟨m, hm⟩ := k2; exact DataW.trod_lt m _ _ _ hm
  obtain ⟨u0, u1, u2, u3, y0, y1, y2, y3, nn, rfl, _, _, t0, t1, t2, t3⟩ := Go.Joins.open_agg4 Try.underlying32 (by kernel_rfl) Try.cells32 (hval 2 32 v2 rfl rfl) h2
  obtain ⟨s0, rfl, _⟩ := str_of (v := u0) t0
  obtain ⟨s1, rfl, _⟩ := str_of (v := u1) t1
  obtain ⟨s2, rfl, _⟩ := str_of (v := u2) t2
  obtain ⟨s3, rfl, _⟩ := str_of (v := u3) t3
  clear hA0 hval0
  refine (f4_walk a0 len0 cap0 S k (fun f => if f = 0 then s0 else if f = 1 then s1 else if f = 2 then s2 else s3) W hn0 hc0 w0 hnil0).mono fun e W' ⟨he, bel⟩ => ?_
  subst he
  exact ⟨_, rfl, _, _, _, [], _, [], hW', trodAll_mk1 (shut_bool Try.underlying4 _), (trodAll_cons_mk (Below.trod Try.laidOut (by kernel_rfl) (of_decide_eq_true (by kernel_rfl)) k0 bel lt0) (trodAll_cons_mk (shut_int Try.underlying3 wk) (trodAll_cons_mk (Below.trod Try.laidOut (by kernel_rfl) (of_decide_eq_true (by kernel_rfl)) k2 bel lt2) trodAll_mk0))), rfl, bel.frame _, fun h => by cases h⟩

theorem over : Rows.fnParamsInsertOneSegmentRow.holds Try.pinned (OpenSpec.ofChange Rows.fnParamsInsertOneSegmentSpec) :=
  OpenClaim.holds_of_wide 4 Try.f4 rfl rfl rfl rfl rfl rfl rfl ⟨rfl, rfl, rfl, rfl, rfl⟩ rfl rfl rfl rfl rfl (by kernel_rfl) Try.func4 (by kernel_rfl)
    (of_decide_eq_true (by kernel_rfl)) (by unfold Func.isWrapper; first | (rw [if_pos (by decide +kernel)]; kernel_rfl) | (rw [if_neg (by decide +kernel)]; exact ⟨rfl, rfl⟩))
    (fun os started H enc _ => lifted os started H enc)
end Go.Proofs.Qxb6628663a.fnParamsInsertOneSegment

namespace Go.Proofs.Qxb6628663a
/-- THE STATEMENT -/
theorem fnParamsInsertOneSegment_holds : Rows.FnParamsInsertOneSegmentSaid := fnParamsInsertOneSegment.over
#print axioms fnParamsInsertOneSegment_holds
end Go.Proofs.Qxb6628663a
