/-
  MEMORY for the walk of 'FnUnescapeHexEscapeValueCaseFreeAndThreeBytes': the joined slice; ZZunescape told by its first three bytes.
-/
import Derived.Test.Qxb6628631aMem
namespace Go.Proofs.Qxb6628631a
open Go.RowKit

/-- An append whose run is known: as a law for the walk (so that the walk does not lay the builtin open by itself). -/
theorem wpList_append_eq {P : Program} {w w' : World} {ops : Array Oper} {rest : List Oper} {o : Oper} {a : Act} {Q : Exit → Act → World → Prop} (hg : o.guard = none) (s x : Operand) (t : TypeId)
    (hop : o.op = Op.call { callee := Callee.builtin Builtin.append, args := #[s, x], argTypes := #[t, t] }) (v1 v2 v : Value) (hs : a.eval s = v1) (hx : a.eval x = v2)
    (hrun : (Builtin.append_ #[t, t] o.type #[v1, v2]).run P w = .ok v w') (h : wpList P ops Q rest (a.put o.dst v) w') : wpList P ops Q (o :: rest) a w := by
  refine wpList_plain hg fun K hK' => ?_
  unfold Oper.wp
  simp [execOp, hop, resolve, invoke, builtin, hs, hx, hrun, Result.andThen]
  exact hK' _ _ h

/-- 'joined := make([]byte, 0, 3+len(tail)); joined = append(joined, rest[:3]...); joined = append(joined, tail...)': three equations; the first three bytes; nothing that was there has turned. -/
theorem joined_made (w7 : World) (g1 n : Nat) (v0 v1 v2 : Int) (h0 : w7.cell? ⟨g1, 0, none⟩ = some (.int .u8 v0)) (h1 : w7.cell? ⟨g1, 1, none⟩ = some (.int .u8 v1)) (h2 : w7.cell? ⟨g1, 2, none⟩ = some (.int .u8 v2))
    (a1 : Option Addr) (n1 c1 : Nat) (Z1 : Nat → Nat) (hr : ByteRow w7 a1 n1 Z1) (hnil : a1 = none → n1 = 0 ∧ c1 = 0) (hn1 : n1 ≤ 65536) :
    ∃ w8 w9 w10, (Instr.makeSlice 22 (.int .i64 0) (.int .i64 (3 + (n1 : Int)))).run Try.prog w7 = .ok (.slice (some ⟨w7.heap.size, 0, none⟩) 0 (3 + n1)) w8 ∧
      (Builtin.append_ #[22, 22] 22 #[.slice (some ⟨w7.heap.size, 0, none⟩) 0 (3 + n1), .slice (some ⟨g1, 0, none⟩) 3 n]).run Try.prog w8 = .ok (.slice (some ⟨w7.heap.size, 0, none⟩) 3 (3 + n1)) w9 ∧
      (Builtin.append_ #[22, 22] 22 #[.slice (some ⟨w7.heap.size, 0, none⟩) 3 (3 + n1), .slice a1 n1 c1]).run Try.prog w9 = .ok (.slice (some ⟨w7.heap.size, 0, none⟩) (3 + n1) (3 + n1)) w10 ∧
      w10.cell? ⟨w7.heap.size, 0, none⟩ = some (.int .u8 v0) ∧ w10.cell? ⟨w7.heap.size, 1, none⟩ = some (.int .u8 v1) ∧ w10.cell? ⟨w7.heap.size, 2, none⟩ = some (.int .u8 v2) ∧ Below w7.heap.size w7 w10 := by
  obtain ⟨i, hi, hz0, hz1, hz2⟩ := info_parts Try.info5
  obtain ⟨w8, r8, o8, g8⟩ := run_make_own (P := Try.prog) w7 w7.heap.size 22 5 i (.int .u8 0) 1 Try.underlying22 hi hz0 hz1 .i64 .i64 (3 + n1) (by rw [hz2]; omega) (by unfold maxLen; omega) (Nat.le_refl _)
  have B8 : Below w7.heap.size w7 w8 := (Below.refl _ _).grown g8 (Nat.le_refl _) (fun k e => by cases e)
  have lt1 : g1 < w7.heap.size := block_lt_of_cell h0
  have three : ∀ j u, [Value.int .u8 v0, .int .u8 v1, .int .u8 v2][j]? = some u → w8.cell? ((⟨g1, 0, none⟩ : Addr).add j) = some u := by
    intro j u hj
    rw [addr_add, Nat.zero_add, B8.cell lt1]
    match j, hj with
    | 0, hj => cases hj; exact h0
    | 1, hj => cases hj; exact h1
    | 2, hj => cases hj; exact h2
    | k + 3, hj => simp at hj
  obtain ⟨w9, r9, o9, g9⟩ := run_append_fits (P := Try.prog) w8 w7.heap.size 22 22 5 i 1 Try.underlying22 hi hz1 w7.heap.size 0 (3 + n1) [] o8 ⟨g1, 0, none⟩ 3 n [.int .u8 v0, .int .u8 v1, .int .u8 v2] rfl three
    (by intro u hu; simp at hu; rcases hu with rfl | rfl | rfl <;> rfl) (by omega)
  have B9 : Below w7.heap.size w7 w9 := B8.grown g9 B8.size (fun k e => by cases e; exact Nat.le_refl _)
  rw [Nat.zero_add] at r9 o9
  have ea : ((3 + n1 : Nat) : Int) = 3 + (n1 : Int) := by omega
  rw [ea] at r8
  have fin : ∀ (w10 : World) (xs : List Value), w10.ownsRow w7.heap.size 5 1 (.slice (some ⟨w7.heap.size, 0, none⟩) (3 + n1) (3 + n1)) (3 + n1) (([] ++ [Value.int .u8 v0, .int .u8 v1, .int .u8 v2]) ++ xs) →
      w10.cell? ⟨w7.heap.size, 0, none⟩ = some (.int .u8 v0) ∧ w10.cell? ⟨w7.heap.size, 1, none⟩ = some (.int .u8 v1) ∧ w10.cell? ⟨w7.heap.size, 2, none⟩ = some (.int .u8 v2) := by
    intro w10 xs o
    refine ⟨?_, ?_, ?_⟩
    · rw [o.cellAt 0 (by omega)]; rfl
    · rw [o.cellAt 1 (by omega)]; rfl
    · rw [o.cellAt 2 (by omega)]; rfl
  cases a1 with
  | none =>
    obtain ⟨rfl, rfl⟩ := hnil rfl
    have r10 := run_append_owned_none (P := Try.prog) w9 w7.heap.size 22 22 5 i 1 Try.underlying22 hi _ _ _ o9
    have f := fin w9 [] (by simpa using o9)
    exact ⟨w8, w9, w9, r8, r9, r10, f.1, f.2.1, f.2.2, B9⟩
  | some ad =>
    have hsrc : ∀ j u, (cellsOf n1 Z1)[j]? = some u → w9.cell? (ad.add j) = some u := by
      intro j u hj
      have := hr.src j u hj
      rw [B9.cell (block_lt_of_cell this)]
      exact this
    obtain ⟨w10, r10, o10, g10⟩ := run_append_fits (P := Try.prog) w9 w7.heap.size 22 22 5 i 1 Try.underlying22 hi hz1 w7.heap.size 3 (3 + n1) _ o9 ad n1 c1 (cellsOf n1 Z1) (by rw [cellsOf_length]; omega) hsrc (cellsOf_one n1 Z1) (Nat.le_refl _)
    have f := fin w10 _ o10
    exact ⟨w8, w9, w10, r8, r9, r10, f.1, f.2.1, f.2.2, B9.grown g10 B9.size (fun k e => by cases e; exact Nat.le_refl _)⟩

set_option maxHeartbeats 1000000 in
/-- ZZunescape at a hexadecimal escape: told by the first three bytes. -/
theorem f6_hex (b n c z1 z2 : Nat) (w : World) (hn : 3 ≤ n) (hn' : n ≤ 1048576) (h0 : w.cell? ⟨b, 0, none⟩ = some (.int .u8 120)) (h1 : w.cell? ⟨b, 1, none⟩ = some (.int .u8 z1)) (h2 : w.cell? ⟨b, 2, none⟩ = some (.int .u8 z2))
    (x1 : Pl.isHexB z1 = true) (x2 : Pl.isHexB z2 = true) : Calls Try.prog 6 #[.slice (some ⟨b, 0, none⟩) n c] w (UnOut (Pl.hv z1 * 16 + Pl.hv z2) 3 w) := by
  go_enter Try.func6, Try.ntmps6
  go_wp2_with fail
  refine (f12_hex b 0 n c z1 z2 _ hn hn' h0 h1 h2 x1 x2).mono ?_
  rintro e w' ⟨rfl, q, rfl⟩
  go_wp2
  go_ret2
  exact ⟨rfl, q, rfl⟩

/-- ZZunescape at no hexadecimal escape. -/
theorem f6_not (b n c : Nat) (Z : Nat → Nat) (w : World) (hn : 1 ≤ n) (hn' : n ≤ 1048576) (hc : ∀ i, i < n → w.cell? ⟨b, i, none⟩ = some (.int .u8 (Z i))) (hx : Pl.hexEsc n Z = false) :
    Calls Try.prog 6 #[.slice (some ⟨b, 0, none⟩) n c] w (UnOut (Pl.esc (Z 0)) 1 w) := by
  have := f6_any b 0 n c Z w hn hn' (fun i hi => by rw [Nat.zero_add]; exact hc i hi)
  simpa [Pl.outB, Pl.outN, hx] using this

end Go.Proofs.Qxb6628631a
