/-
  THE WALK of 'FnUnescapeOneByteEscapeIsCControlCodeOrItself' (function 4).
-/
import Derived.Test.Qxb6628631aHexMem
namespace Go.Proofs.Qxb6628631a
open Go.RowKit

set_option maxRecDepth 100000 in
set_option maxHeartbeats 2000000 in
theorem f4_walk (a : Option Addr) (n c : Nat) (Z : Nat → Nat) (w : World) (hn : n ≤ 9223372036854775807) (ha : ByteRow w a n Z) :
    Calls Try.prog 4 #[.slice a n c] w (LawOut w) := by
  have qn : ∀ (w : World) (a : Option Addr) (n c n' c' : Nat), (binOp .neq 22 (.slice a n c) (.slice none n' c')).run Try.prog w = .ok (.bool (!a.isNone)) w := fun w a n c n' c' => run_neq_slice_nil_any w _ _ a n c n' c' Try.underlying22
  go_enter Try.func4, Try.ntmps4
  go_wp2_with fail
  refine (f9_any a n c _ hn).mono ?_
  rintro e w' ⟨b, rfl, rfl⟩
  cases b
  · go_wp2
    go_ret
    exact ⟨rfl, Below.refl _ _⟩
  by_cases hb1 : (65536 : Int) < n
  · go_wp2
    go_ret
    exact ⟨rfl, Below.refl _ _⟩
  by_cases h0 : n = 0
  · have q0 : ((n : Int) == 0) = true := by rw [beq_iff_eq]; omega
    go_wp2
    go_ret
    exact ⟨rfl, Below.refl _ _⟩
  have q0 : ((n : Int) == 0) = false := by rw [beq_eq_false_iff_ne]; omega
  have hpos : 1 ≤ n := by omega
  clear hn
  rcases ha with ha0 | ⟨ab, ao, rfl, hca⟩
  · exact absurd ha0 h0
  have hlt : ∀ i, i < n → Z i < 256 := fun i hi => (hca i hi).2
  have ha : ByteRow w (some ⟨ab, ao, none⟩) n Z := .inr ⟨ab, ao, rfl, hca⟩
  clear hca h0
  have hmk := run_make_row' (P := Try.prog) 22 5 (.int .u8 0) 1 Try.underlying22 Try.info5 rfl .i64 .i64 n (by omega) (by omega)
  obtain ⟨w2, hcp, hg2, hB2, hz2⟩ := copy_made (P := Try.prog) w 22 5 3 Try.underlying22 Try.size5 (.int .u8 0) n c ⟨ab, ao, none⟩ (cellsOf n Z) (cellsOf_length n Z) ha.src (cellsOf_one n Z)
  have hC : Hid (∀ i, i < n → w2.cell? ⟨w.heap.size, i, none⟩ = some (.int .u8 (Z i))) := fun i hi => cell_of_row hg2 i (cellsOf_get n Z i hi)
  have hg : w.heap.size < w2.heap.size := by omega
  clear hg2 hz2 ha
  cases hx : Pl.hexEsc n Z
  · have l0 : (0 : Int) < n := by omega
    go_wp2_with fail
    refine (f6_not w.heap.size n n Z _ hpos (by omega) hC.out hx).mono ?_
    rintro e w' ⟨rfl, q1, rfl⟩
    have hB3 : Below w.heap.size w (w2.drewN q1) := hB2.trans (below_drewN' _ _ _)
    have hC3 : Hid (∀ i, i < n → (w2.drewN q1).cell? ⟨w.heap.size, i, none⟩ = some (.int .u8 (Z i))) := hC
    generalize w2.drewN q1 = w3 at *
    clear hcp hC hB2
    go_wp2_with fail
    refine (f10_any w.heap.size 0 n n Z _ hpos (by omega) (fun i hi => by rw [Nat.zero_add]; exact ⟨hC3.out i hi, hlt i hi⟩)).mono ?_
    rintro e w' ⟨rfl, rfl⟩
    rw [hx]
    have c0 := hC3.out 0 (by omega)
    have bz : Pl.esc (Z 0) < 256 := Pl.esc_lt (hlt 0 (by omega))
    have hmk1 : ∀ w, (Instr.makeSlice 22 (.int .i64 1) (.int .i64 1)).run Try.prog w = .ok (.slice (some ⟨w.heap.size, 0, none⟩) 1 1) (w.alloc (.cells #[.int .u8 0] 5)) := fun _ => by kernel_rfl
    go_wp2_with fail
    refine (f11_any (Z 0) _).mono ?_
    rintro e w' ⟨rfl, rfl⟩
    go_wp2_with fail
    have hone : ∀ i, i < 1 → (w'.alloc (.cells #[.int .u8 (Pl.esc (Z 0))] 5)).cell? ⟨w'.heap.size, i, none⟩ = some (.int .u8 ((fun _ => Pl.esc (Z 0)) i : Nat)) := fun i hi => by
      obtain rfl : i = 0 := by omega
      exact cell_of_row (cs := [.int .u8 (Pl.esc (Z 0))]) (heap_alloc_new w' _) 0 rfl
    have hB4 : Below w.heap.size w (w'.alloc (.cells #[.int .u8 (Pl.esc (Z 0))] 5)) := hB3.alloc hB3.size _
    refine (f6_not w'.heap.size 1 1 (fun _ => Pl.esc (Z 0)) _ (Nat.le_refl _) (by omega) hone (by simp [Pl.hexEsc])).mono ?_
    rintro e w5 ⟨rfl, q2, rfl⟩
    have hB5 : Below w.heap.size w ((w'.alloc (.cells #[.int .u8 (Pl.esc (Z 0))] 5)).drewN q2) := hB4.trans (below_drewN' _ _ _)
    have hee : Pl.esc (Pl.esc (Z 0)) = Pl.esc (Z 0) := Pl.esc_esc _
    clear hone hB4
    go_wp2
    go_ret
    exact ⟨rfl, hB5⟩
  · obtain ⟨hz, h3, x1, x2⟩ : Z 0 = 120 ∧ 3 ≤ n ∧ Pl.isHexB (Z 1) = true ∧ Pl.isHexB (Z 2) = true := by
      simp [Pl.hexEsc] at hx
      exact ⟨hx.1.1.1, hx.1.1.2, hx.1.2, hx.2⟩
    have l3 : (3 : Int) ≤ n := by omega
    have c0 : w2.cell? ⟨w.heap.size, 0, none⟩ = some (.int .u8 120) := by rw [hC.out 0 (by omega), hz]; rfl
    have c1 := hC.out 1 (by omega)
    have c2 := hC.out 2 (by omega)
    clear hz
    go_wp2_with fail
    refine (f6_hex w.heap.size n n (Z 1) (Z 2) _ h3 (by omega) c0 c1 c2 x1 x2).mono ?_
    rintro e w' ⟨rfl, q1, rfl⟩
    have hB3 : Below w.heap.size w (w2.drewN q1) := hB2.trans (below_drewN' _ _ _)
    have d0 : (w2.drewN q1).cell? ⟨w.heap.size, 0, none⟩ = some (.int .u8 120) := c0
    have d1 : (w2.drewN q1).cell? ⟨w.heap.size, 1, none⟩ = some (.int .u8 (Z 1)) := c1
    have d2 : (w2.drewN q1).cell? ⟨w.heap.size, 2, none⟩ = some (.int .u8 (Z 2)) := c2
    have hC3 : Hid (∀ i, i < n → (w2.drewN q1).cell? ⟨w.heap.size, i, none⟩ = some (.int .u8 (Z i))) := hC
    generalize w2.drewN q1 = w3 at *
    clear hcp hC hB2 c0 c1 c2
    go_wp2_with fail
    refine (f10_any w.heap.size 0 n n Z _ hpos (by omega) (fun i hi => by rw [Nat.zero_add]; exact ⟨hC3.out i hi, hlt i hi⟩)).mono ?_
    rintro e w' ⟨rfl, rfl⟩
    rw [hx]
    go_wp2_with fail
    refine (f6_hex w.heap.size 3 n (Z 1) (Z 2) _ (Nat.le_refl _) (by omega) d0 d1 d2 x1 x2).mono ?_
    rintro e w' ⟨rfl, q2, rfl⟩
    have hB4 : Below w.heap.size w (w3.drewN q2) := hB3.trans (below_drewN' _ _ _)
    go_wp2
    go_ret
    exact ⟨rfl, hB4⟩

end Go.Proofs.Qxb6628631a
