/-
  THE WALK of 'FnUnescapeHexEscapeValueCaseFreeAndThreeBytes' (function 3).
-/
import Derived.Test.Qxb6628631aHexMem
namespace Go.Proofs.Qxb6628631a
open Go.RowKit

theorem ByteRow.below {w w' : World} {B : Nat} {a : Option Addr} {n : Nat} {Z : Nat → Nat} (h : ByteRow w a n Z) (hb : Below B w w') (hB : w.heap.size ≤ B) : ByteRow w' a n Z := by
  rcases h with h | ⟨b, o, e, hc⟩
  · exact .inl h
  · refine .inr ⟨b, o, e, fun i hi => ⟨?_, (hc i hi).2⟩⟩
    have := block_lt_of_cell (hc i hi).1
    rw [hb.cell (by simp at this ⊢; omega)]
    exact (hc i hi).1

set_option maxRecDepth 100000 in
set_option maxHeartbeats 2000000 in
theorem f3_walk (a : Option Addr) (n c : Nat) (Z : Nat → Nat) (a1 : Option Addr) (n1 c1 : Nat) (Z1 : Nat → Nat) (w : World) (hn : n ≤ 9223372036854775807) (hn1 : n1 ≤ 9223372036854775807)
    (ha : ByteRow w a n Z) (ha1 : ByteRow w a1 n1 Z1) (hnil1 : a1 = none → n1 = 0 ∧ c1 = 0) :
    Calls Try.prog 3 #[.slice a n c, .slice a1 n1 c1] w (LawOut w) := by
  have qn : ∀ (w : World) (a : Option Addr) (n c n' c' : Nat), (binOp .neq 22 (.slice a n c) (.slice none n' c')).run Try.prog w = .ok (.bool (!a.isNone)) w := fun w a n c n' c' => run_neq_slice_nil_any w _ _ a n c n' c' Try.underlying22
  go_enter Try.func3, Try.ntmps3
  go_wp2_with fail
  refine (f5_any a n c a1 n1 c1 _ hn hn1).mono ?_
  rintro e w' ⟨b, rfl, rfl⟩
  cases b
  · go_wp2
    go_ret
    exact ⟨rfl, Below.refl _ _⟩
  by_cases hb1 : (65536 : Int) < n
  · go_wp2
    go_ret
    exact ⟨rfl, Below.refl _ _⟩
  by_cases hb2 : (65536 : Int) < n1
  · go_wp2
    go_ret
    exact ⟨rfl, Below.refl _ _⟩
  by_cases h0 : n = 0
  · have q0 : ((n : Int) == 0) = true := by rw [beq_iff_eq]; omega
    go_wp2
    go_ret
    exact ⟨rfl, Below.refl _ _⟩
  have q0 : ((n : Int) == 0) = false := by rw [beq_eq_false_iff_ne]; omega
  have hpos : 1 ≤ n := by omega
  clear hn hn1
  rcases ha with ha0 | ⟨ab, ao, rfl, hca⟩
  · exact absurd ha0 h0
  have hlt : ∀ i, i < n → Z i < 256 := fun i hi => (hca i hi).2
  have ha : ByteRow w (some ⟨ab, ao, none⟩) n Z := .inr ⟨ab, ao, rfl, hca⟩
  clear hca h0
  have hmk := run_make_row' (P := Try.prog) 22 5 (.int .u8 0) 1 Try.underlying22 Try.info5 rfl .i64 .i64 n (by omega) (by omega)
  obtain ⟨w2, hcp, hg2, hB2, hz2⟩ := copy_made (P := Try.prog) w 22 5 3 Try.underlying22 Try.size5 (.int .u8 0) n c ⟨ab, ao, none⟩ (cellsOf n Z) (cellsOf_length n Z) ha.src (cellsOf_one n Z)
  have ha1 : ByteRow w2 a1 n1 Z1 := ha1.below hB2 (Nat.le_refl _)
  have hC : Hid (∀ i, i < n → w2.cell? ⟨w.heap.size, i, none⟩ = some (.int .u8 (Z i))) := fun i hi => cell_of_row hg2 i (cellsOf_get n Z i hi)
  have hg : w.heap.size < w2.heap.size := by omega
  clear hg2 hz2 ha
  cases hx : Pl.hexEsc n Z
  · have hx1 : Pl.hexEsc 1 Z = false := by simp [Pl.hexEsc]
    by_cases h3 : 3 ≤ n
    · have l3 : (3 : Int) ≤ n := by omega
      have l0 : (0 : Int) < n := by omega
      have l1 : (1 : Int) < n := by omega
      have l2 : (2 : Int) < n := by omega
      by_cases hz : Z 0 = 120
      · have c1x : Hid (Pl.isHexB (Z 1) = false ∨ Pl.isHexB (Z 2) = false) := by
          show _ ∨ _
          simp [Pl.hexEsc, hz, h3] at hx
          cases e1 : Pl.isHexB (Z 1)
          · exact .inl rfl
          · exact .inr (hx e1)
        go_wp2_with fail
        refine (f6_not w.heap.size n n Z _ hpos (by omega) hC.out hx).mono ?_
        rintro e w' ⟨rfl, q1, rfl⟩
        have hB3 : Below w.heap.size w (w2.drewN q1) := hB2.trans (below_drewN' _ _ _)
        have hC3 : Hid (∀ i, i < n → (w2.drewN q1).cell? ⟨w.heap.size, i, none⟩ = some (.int .u8 (Z i))) := hC
        generalize w2.drewN q1 = w3 at *
        clear hcp hC hB2
        have c0 : w3.cell? ⟨w.heap.size, 0, none⟩ = some (.int .u8 120) := by rw [hC3.out 0 (by omega), hz]; rfl
        have c1 := hC3.out 1 (by omega)
        have c2 := hC3.out 2 (by omega)
        go_wp2_with fail
        refine (f7_any (Z 1) (hlt 1 (by omega)) _).mono ?_
        rintro e w' ⟨rfl, ⟨x1, rfl⟩ | ⟨x1, rfl⟩⟩
        · go_wp2_with fail
          refine (f7_any (Z 2) (hlt 2 (by omega)) _).mono ?_
          rintro e w' ⟨rfl, ⟨x2, rfl⟩ | ⟨x2, rfl⟩⟩
          · rcases c1x.out with h | h
            · rw [x1] at h; cases h
            · rw [x2] at h; cases h
          · go_wp2_with fail
            refine (f6_not w.heap.size 1 n Z _ (Nat.le_refl _) (by omega) (fun i hi => hC3.out i (by omega)) hx1).mono ?_
            rintro e w' ⟨rfl, q2, rfl⟩
            have hB4 : Below w.heap.size w (w3.drewN q2) := hB3.trans (below_drewN' _ _ _)
            go_wp2
            go_ret
            exact ⟨rfl, hB4⟩
        · go_wp2_with fail
          refine (f7_any (Z 2) (hlt 2 (by omega)) _).mono ?_
          rintro e w' ⟨rfl, ⟨x2, rfl⟩ | ⟨x2, rfl⟩⟩
          all_goals
            go_wp2_with fail
            refine (f6_not w.heap.size 1 n Z _ (Nat.le_refl _) (by omega) (fun i hi => hC3.out i (by omega)) hx1).mono ?_
            rintro e w' ⟨rfl, q2, rfl⟩
            have hB4 : Below w.heap.size w (w3.drewN q2) := hB3.trans (below_drewN' _ _ _)
            go_wp2
            go_ret
            exact ⟨rfl, hB4⟩
      · have qz : ((Z 0 : Int) == 120) = false := by rw [beq_eq_false_iff_ne]; omega
        go_wp2_with fail
        refine (f6_not w.heap.size n n Z _ hpos (by omega) hC.out hx).mono ?_
        rintro e w' ⟨rfl, q1, rfl⟩
        have hB3 : Below w.heap.size w (w2.drewN q1) := hB2.trans (below_drewN' _ _ _)
        have hC3 : Hid (∀ i, i < n → (w2.drewN q1).cell? ⟨w.heap.size, i, none⟩ = some (.int .u8 (Z i))) := hC
        generalize w2.drewN q1 = w3 at *
        clear hcp hC hB2
        have c0 := hC3.out 0 (by omega)
        go_wp2_with fail
        refine (f6_not w.heap.size 1 n Z _ (Nat.le_refl _) (by omega) (fun i hi => hC3.out i (by omega)) hx1).mono ?_
        rintro e w' ⟨rfl, q2, rfl⟩
        have hB4 : Below w.heap.size w (w3.drewN q2) := hB3.trans (below_drewN' _ _ _)
        go_wp2
        go_ret
        exact ⟨rfl, hB4⟩
    · have l3 : ¬ (3 : Int) ≤ n := by omega
      have l0 : (0 : Int) < n := by omega
      go_wp2_with fail
      refine (f6_not w.heap.size n n Z _ hpos (by omega) hC.out hx).mono ?_
      rintro e w' ⟨rfl, q1, rfl⟩
      have hB3 : Below w.heap.size w (w2.drewN q1) := hB2.trans (below_drewN' _ _ _)
      have hC3 : Hid (∀ i, i < n → (w2.drewN q1).cell? ⟨w.heap.size, i, none⟩ = some (.int .u8 (Z i))) := hC
      generalize w2.drewN q1 = w3 at *
      clear hcp hC hB2
      go_wp2_with fail
      refine (f6_not w.heap.size 1 n Z _ (Nat.le_refl _) (by omega) (fun i hi => hC3.out i (by omega)) hx1).mono ?_
      rintro e w' ⟨rfl, q2, rfl⟩
      have hB4 : Below w.heap.size w (w3.drewN q2) := hB3.trans (below_drewN' _ _ _)
      go_wp2
      go_ret
      exact ⟨rfl, hB4⟩
  · obtain ⟨hz, h3, x1, x2⟩ : Z 0 = 120 ∧ 3 ≤ n ∧ Pl.isHexB (Z 1) = true ∧ Pl.isHexB (Z 2) = true := by
      simp [Pl.hexEsc] at hx
      exact ⟨hx.1.1.1, hx.1.1.2, hx.1.2, hx.2⟩
    have l3 : (3 : Int) ≤ n := by omega
    have l0 : (0 : Int) < n := by omega
    have l1 : (1 : Int) < n := by omega
    have l2 : (2 : Int) < n := by omega
    have c0 : w2.cell? ⟨w.heap.size, 0, none⟩ = some (.int .u8 120) := by rw [hC.out 0 (by omega), hz]; rfl
    have c1 := hC.out 1 (by omega)
    have c2 := hC.out 2 (by omega)
    have b1 := hlt 1 (by omega)
    have b2 := hlt 2 (by omega)
    have hC1 : Hid (Z 1 = Z 1) := rfl
    generalize hz1 : Z 1 = z1 at *
    generalize hz2 : Z 2 = z2 at *
    have HZ1 : Hid (Z 1 = z1) := hz1
    have HZ2 : Hid (Z 2 = z2) := hz2
    have HZ0 : Hid (Z 0 = 120) := hz
    clear hz hz1 hz2 hx hC1 hlt
    go_wp2_with fail
    refine (f6_hex w.heap.size n n z1 z2 _ h3 (by omega) c0 c1 c2 x1 x2).mono ?_
    rintro e w' ⟨rfl, q1, rfl⟩
    have hB3 : Below w.heap.size w (w2.drewN q1) := hB2.trans (below_drewN' _ _ _)
    have d0 : (w2.drewN q1).cell? ⟨w.heap.size, 0, none⟩ = some (.int .u8 120) := c0
    have d1 : (w2.drewN q1).cell? ⟨w.heap.size, 1, none⟩ = some (.int .u8 z1) := c1
    have d2 : (w2.drewN q1).cell? ⟨w.heap.size, 2, none⟩ = some (.int .u8 z2) := c2
    have hC3 : Hid (∀ i, i < n → (w2.drewN q1).cell? ⟨w.heap.size, i, none⟩ = some (.int .u8 (Z i))) := hC
    have hg3 : w.heap.size < (w2.drewN q1).heap.size := hg
    have ha3 : ByteRow (w2.drewN q1) a1 n1 Z1 := ha1
    generalize w2.drewN q1 = w3 at *
    clear hcp hC hB2 c0 c1 c2 hg ha1
    have v1 := Pl.hv_lt x1
    have v2 := Pl.hv_lt x2
    obtain ⟨V, hV⟩ : ∃ V : Nat, V = Pl.hv z1 * 16 + Pl.hv z2 := ⟨_, rfl⟩
    rw [← hV]
    have fV : ((V : Int) != (Pl.hv z1 : Int) * 16 + (Pl.hv z2 : Int)) = false := by rw [bne_eq_false_iff_eq]; omega
    have bV : V < 256 := by omega
    have HV : Hid (V = Pl.hv z1 * 16 + Pl.hv z2) := hV
    clear hV
    go_wp2_with fail
    refine (f7_any z1 b1 _).mono ?_
    rintro e w' ⟨rfl, ⟨_, rfl⟩ | ⟨y1, rfl⟩⟩
    rotate_left
    · rw [x1] at y1; cases y1
    go_wp2_with fail
    refine (f7_any z2 b2 _).mono ?_
    rintro e w' ⟨rfl, ⟨_, rfl⟩ | ⟨y2, rfl⟩⟩
    rotate_left
    · rw [x2] at y2; cases y2
    have hsrc : ∀ j v, (cellsOf n Z)[j]? = some v → w3.cell? ((⟨w.heap.size, 0, none⟩ : Addr).add j) = some v := by
      intro j v hj
      have hjn : j < n := by have := (List.getElem?_eq_some_iff.1 hj).1; simpa [cellsOf] using this
      rw [cellsOf_get n Z j hjn] at hj
      cases hj
      rw [addr_add, Nat.zero_add]
      exact hC3.out j hjn
    obtain ⟨w4, hcp, hg4, hB4, hz4⟩ := copy_made (P := Try.prog) w3 22 5 3 Try.underlying22 Try.size5 (.int .u8 0) n n ⟨w.heap.size, 0, none⟩ (cellsOf n Z) (cellsOf_length n Z) hsrc (cellsOf_one n Z)
    have p0 : w4.cell? ⟨w.heap.size, 0, none⟩ = some (.int .u8 120) := (hB4.cell (by exact hg3)).trans d0
    have p1 : w4.cell? ⟨w.heap.size, 1, none⟩ = some (.int .u8 z1) := (hB4.cell (by exact hg3)).trans d1
    have p2 : w4.cell? ⟨w.heap.size, 2, none⟩ = some (.int .u8 z2) := (hB4.cell (by exact hg3)).trans d2
    have e0 : w4.cell? ⟨w3.heap.size, 0, none⟩ = some (.int .u8 120) := by
      rw [cell_of_row hg4 0 (cellsOf_get n Z 0 (by omega)), HZ0.out]; rfl
    have e1 : w4.cell? ⟨w3.heap.size, 1, none⟩ = some (.int .u8 z1) := by
      rw [cell_of_row hg4 1 (cellsOf_get n Z 1 (by omega)), HZ1.out]
    have e2 : w4.cell? ⟨w3.heap.size, 2, none⟩ = some (.int .u8 z2) := by
      rw [cell_of_row hg4 2 (cellsOf_get n Z 2 (by omega)), HZ2.out]
    have f1 := free_of_row hg4 1
    have f2 := free_of_row hg4 2
    have ha4 : ByteRow w4 a1 n1 Z1 := ha3.below hB4 (Nat.le_refl _)
    have hB5 : Below w.heap.size w w4 := hB3.trans (hB4.mono (by omega))
    have hg4' : w3.heap.size < w4.heap.size := by omega
    clear hg4 hz4 hsrc hC3 d0 d1 d2 hB3
    -- flipped[1], flipped[2]
    obtain ⟨w5, hw5⟩ : ∃ w5, w5 = w4.setCell ⟨w3.heap.size, 1, none⟩ (.int .u8 (Pl.flip z1)) := ⟨_, rfl⟩
    obtain ⟨w6, hw6⟩ : ∃ w6, w6 = w5.setCell ⟨w3.heap.size, 2, none⟩ (.int .u8 (Pl.flip z2)) := ⟨_, rfl⟩
    have ne1 : ∀ o o', (⟨w3.heap.size, o, none⟩ : Addr) ≠ ⟨w.heap.size, o', none⟩ := fun o o' h => by have := congrArg Addr.block h; simp at this; omega
    have k2 : w5.cell? ⟨w.heap.size, 2, none⟩ = some (.int .u8 z2) := by rw [hw5, World.cell?_setCell_other _ _ _ _ (ne1 _ _)]; exact p2
    have k3 : w5.cell? ⟨w3.heap.size, 2, none⟩ = some (.int .u8 z2) := by rw [hw5, World.cell?_setCell_other _ _ _ _ (by intro h; cases h)]; exact e2
    have k4 : w5.frozen? ⟨w3.heap.size, 2, none⟩ = false := by rw [hw5, World.frozen?_setCell]; exact f2
    have k5 : w5.cell? ⟨w3.heap.size, 1, none⟩ = some (.int .u8 (Pl.flip z1)) := by rw [hw5]; exact World.cell?_setCell_same _ _ _ e1
    have k6 : w5.cell? ⟨w3.heap.size, 0, none⟩ = some (.int .u8 120) := by rw [hw5, World.cell?_setCell_other _ _ _ _ (by intro h; cases h)]; exact e0
    have m0 : w6.cell? ⟨w3.heap.size, 0, none⟩ = some (.int .u8 120) := by rw [hw6, World.cell?_setCell_other _ _ _ _ (by intro h; cases h)]; exact k6
    have m1 : w6.cell? ⟨w3.heap.size, 1, none⟩ = some (.int .u8 (Pl.flip z1)) := by rw [hw6, World.cell?_setCell_other _ _ _ _ (by intro h; cases h)]; exact k5
    have m2 : w6.cell? ⟨w3.heap.size, 2, none⟩ = some (.int .u8 (Pl.flip z2)) := by rw [hw6]; exact World.cell?_setCell_same _ _ _ k3
    have t6 : Below w3.heap.size w4 w6 := by rw [hw6, hw5]; exact ((Below.refl w3.heap.size w4).setCell (p := ⟨w3.heap.size, 1, none⟩) (Nat.le_refl _) _).setCell (p := ⟨w3.heap.size, 2, none⟩) (Nat.le_refl _) _
    have ha6 : ByteRow w6 a1 n1 Z1 := ha3.below (hB4.trans t6) (Nat.le_refl _)
    have r0 : w6.cell? ⟨w.heap.size, 0, none⟩ = some (.int .u8 120) := (t6.cell (by exact hg3)).trans p0
    have r1 : w6.cell? ⟨w.heap.size, 1, none⟩ = some (.int .u8 z1) := (t6.cell (by exact hg3)).trans p1
    have r2 : w6.cell? ⟨w.heap.size, 2, none⟩ = some (.int .u8 z2) := (t6.cell (by exact hg3)).trans p2
    have hB6 : Below w.heap.size w w6 := hB5.trans (t6.mono (by omega))
    have y1 := Pl.flip_hex x1
    have y2 := Pl.flip_hex x2
    have HV' : Hid (Pl.hv (Pl.flip z1) * 16 + Pl.hv (Pl.flip z2) = V) := by rw [Pl.flip_hv x1, Pl.flip_hv x2]; exact HV.out.symm
    have HW5 : w4.setCell ⟨w3.heap.size, 1, none⟩ (.int .u8 (Pl.flip z1)) = w5 := hw5.symm
    have HW6 : w5.setCell ⟨w3.heap.size, 2, none⟩ (.int .u8 (Pl.flip z2)) = w6 := hw6.symm
    have s6 : w4.heap.size = w6.heap.size := by rw [hw6, hw5]; simp [World.setCell]
    have hg6 : w3.heap.size < w6.heap.size := by rw [← s6]; exact hg4'
    clear hw5 hw6 s6 t6 hg4'
    go_wp2_with fail
    refine (f8_any z1 b1 _).mono ?_
    rintro e w' ⟨rfl, rfl⟩
    go_wp2_with fail
    refine (f8_any z2 b2 _).mono ?_
    rintro e w' ⟨rfl, rfl⟩
    go_wp2_with fail
    refine (f6_hex w3.heap.size n n (Pl.flip z1) (Pl.flip z2) _ h3 (by omega) m0 m1 m2 y1 y2).mono ?_
    rintro e w' ⟨rfl, q2, rfl⟩
    rw [HV'.out]
    have hB7 : Below w.heap.size w (w6.drewN q2) := hB6.trans (below_drewN' _ _ _)
    have ha7 : ByteRow (w6.drewN q2) a1 n1 Z1 := ha6
    have r0 : (w6.drewN q2).cell? ⟨w.heap.size, 0, none⟩ = some (.int .u8 120) := r0
    have r1 : (w6.drewN q2).cell? ⟨w.heap.size, 1, none⟩ = some (.int .u8 z1) := r1
    have r2 : (w6.drewN q2).cell? ⟨w.heap.size, 2, none⟩ = some (.int .u8 z2) := r2
    generalize w6.drewN q2 = w7 at *
    clear hcp hB4 p0 p1 p2 e0 e1 e2 f1 f2 ha4 hB5 k2 k3 k4 k5 k6 HW5 HW6 ne1 m0 m1 m2 hB6 hg6 ha6
    obtain ⟨w8, w9, w10, j8, j9, j10, u0, u1, u2, hB10⟩ := joined_made w7 w.heap.size n 120 z1 z2 r0 r1 r2 a1 n1 c1 Z1 ha7 hnil1 (by omega)
    have hB11 : Below w.heap.size w w10 := hB7.trans (hB10.mono hB7.size)
    go_wp2_with (first
      | (at_builtin; refine wpList_append_eq rfl (.tmp 122) (.tmp 124) 22 rfl _ _ _ rfl rfl j9 ?_)
      | (at_builtin; refine wpList_append_eq rfl (.tmp 126) (.tmp 127) 22 rfl _ _ _ rfl rfl j10 ?_))
    have HV3 : Hid (Pl.hv z1 * 16 + Pl.hv z2 = V) := HV.out.symm
    refine (f6_hex w7.heap.size (3 + n1) (3 + n1) z1 z2 _ (by omega) (by omega) u0 u1 u2 x1 x2).mono ?_
    rintro e w' ⟨rfl, q3, rfl⟩
    rw [HV3.out]
    have hB12 : Below w.heap.size w (w10.drewN q3) := hB11.trans (below_drewN' _ _ _)
    go_wp2
    go_ret
    exact ⟨rfl, hB12⟩

end Go.Proofs.Qxb6628631a
