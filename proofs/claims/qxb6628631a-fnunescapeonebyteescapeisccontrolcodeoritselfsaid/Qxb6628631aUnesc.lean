/-
  THE CONTRACT of unescape (function 12), of ZZunescape (6), of isHexEscape (10).
-/
import Derived.Test.Qxb6628631aCalls
import Derived.Deep.RegionWith
namespace Go.Proofs.Qxb6628631a
open Go.RowKit

/-- What unescape comes to: some draws, a byte, a width. -/
def UnOut (v k : Nat) (w : World) (e : Ending) (w' : World) : Prop := e = .returned (.tuple #[.int .u8 v, .int .i64 k]) ∧ ∃ q, w' = w.drewN q

/-- 'x << 4 | y' at two digits' values. -/
theorem or_shift (a b : Nat) (ha : a < 16) (hb : b < 16) : bits BinOp.or IntKind.u8 ((a : Int) * 16) (b : Int) = ((a * 16 + b : Nat) : Int) := by
  have : ∀ x y : Fin 16, bits BinOp.or IntKind.u8 ((x.val : Int) * 16) (y.val : Int) = ((x.val * 16 + y.val : Nat) : Int) := by decide +kernel
  exact this ⟨a, ha⟩ ⟨b, hb⟩

theorem ret_two {k k' : IntKind} {a b c d : Int} (h : a = b) (h' : c = d) : Ending.returned (.tuple #[.int k a, .int k' c]) = .returned (.tuple #[.int k b, .int k' d]) := by rw [h, h']

set_option maxHeartbeats 1000000 in
theorem f12_hex (b off n c z1 z2 : Nat) (w : World) (hn : 3 ≤ n) (hn' : n ≤ 1048576) (h0 : w.cell? ⟨b, off, none⟩ = some (.int .u8 120)) (h1 : w.cell? ⟨b, off + 1, none⟩ = some (.int .u8 z1)) (h2 : w.cell? ⟨b, off + 2, none⟩ = some (.int .u8 z2))
    (x1 : Pl.isHexB z1 = true) (x2 : Pl.isHexB z2 = true) : Calls Try.prog 12 #[.slice (some ⟨b, off, none⟩) n c] w (UnOut (Pl.hv z1 * 16 + Pl.hv z2) 3 w) := by
  have l1 : (0 : Int) < (n : Int) := by omega
  have l2 : (1 : Int) < (n : Int) := by omega
  have l3 : (2 : Int) < (n : Int) := by omega
  have l4 : (3 : Int) ≤ (n : Int) := by omega
  have v1 := Pl.hv_lt x1
  have v2 := Pl.hv_lt x2
  go_enter Try.func12, Try.ntmps12
  go_wp2_with (go_at_call 13; refine (f13_any _ _).mono ?_; rintro e w' ⟨rfl, rfl⟩)
  go_quiet ((first | (go_at_call_of 14 (Value.int .u8 (z1 : Int)); exact Calls.quiet_of_same (f14_any z1 _ x1)) | (go_at_call 14; exact Calls.quiet_of_same (f14_any z2 _ x2))))
  go_wp2
  go_ret2
  exact ⟨ret_two (or_shift _ _ v1 v2) rfl, nq, rfl⟩

/-- The switch on the first byte, behind a test that said no. -/
theorem esc_else {z : Nat} (h1 : z ≠ 110) (h2 : z ≠ 114) (h3 : z ≠ 116) (h4 : z ≠ 98) (h5 : z ≠ 97) : Pl.esc z = z := by simp [Pl.esc, h1, h2, h3, h4, h5]

set_option maxHeartbeats 1000000 in
theorem f12_one (b off n c z0 : Nat) (w : World) (hn : 1 ≤ n) (hn' : n ≤ 1048576) (h0 : w.cell? ⟨b, off, none⟩ = some (.int .u8 z0)) (hx : z0 ≠ 120) : Calls Try.prog 12 #[.slice (some ⟨b, off, none⟩) n c] w (UnOut (Pl.esc z0) 1 w) := by
  have l1 : (0 : Int) < (n : Int) := by omega
  have qx : ((z0 : Int) == 120) = false := by rw [beq_eq_false_iff_ne]; omega
  by_cases h1 : z0 = 110
  · subst h1
    go_enter Try.func12, Try.ntmps12
    go_wp2
    go_ret2
    exact ⟨rfl, 0, rfl⟩
  by_cases h2 : z0 = 114
  · subst h2
    go_enter Try.func12, Try.ntmps12
    go_wp2
    go_ret2
    exact ⟨rfl, 0, rfl⟩
  by_cases h3 : z0 = 116
  · subst h3
    go_enter Try.func12, Try.ntmps12
    go_wp2
    go_ret2
    exact ⟨rfl, 0, rfl⟩
  by_cases h4 : z0 = 98
  · subst h4
    go_enter Try.func12, Try.ntmps12
    go_wp2
    go_ret2
    exact ⟨rfl, 0, rfl⟩
  by_cases h5 : z0 = 97
  · subst h5
    go_enter Try.func12, Try.ntmps12
    go_wp2
    go_ret2
    exact ⟨rfl, 0, rfl⟩
  have HE : Hid (Pl.esc z0 = z0) := esc_else h1 h2 h3 h4 h5
  have q1 : ((z0 : Int) == 110) = false := by rw [beq_eq_false_iff_ne]; omega
  have q2 : ((z0 : Int) == 114) = false := by rw [beq_eq_false_iff_ne]; omega
  have q3 : ((z0 : Int) == 116) = false := by rw [beq_eq_false_iff_ne]; omega
  have q4 : ((z0 : Int) == 98) = false := by rw [beq_eq_false_iff_ne]; omega
  have q5 : ((z0 : Int) == 97) = false := by rw [beq_eq_false_iff_ne]; omega
  go_enter Try.func12, Try.ntmps12
  go_wp2
  go_ret2
  exact ⟨ret_two (by rw [HE.out]) rfl, 0, rfl⟩

set_option maxHeartbeats 1000000 in
theorem f12_short (b off n c : Nat) (w : World) (hn : 1 ≤ n) (hn' : n < 3) (h0 : w.cell? ⟨b, off, none⟩ = some (.int .u8 120)) : Calls Try.prog 12 #[.slice (some ⟨b, off, none⟩) n c] w (UnOut 120 1 w) := by
  have l1 : (0 : Int) < (n : Int) := by omega
  have l4 : ¬ (3 : Int) ≤ (n : Int) := by omega
  go_enter Try.func12, Try.ntmps12
  go_wp2
  go_ret2
  exact ⟨rfl, 0, rfl⟩

set_option maxHeartbeats 1000000 in
theorem f12_not1 (b off n c z1 : Nat) (w : World) (hn : 3 ≤ n) (hn' : n ≤ 1048576) (h0 : w.cell? ⟨b, off, none⟩ = some (.int .u8 120)) (h1 : w.cell? ⟨b, off + 1, none⟩ = some (.int .u8 z1)) (x1 : Pl.isHexB z1 = false) :
    Calls Try.prog 12 #[.slice (some ⟨b, off, none⟩) n c] w (UnOut 120 1 w) := by
  have l1 : (0 : Int) < (n : Int) := by omega
  have l2 : (1 : Int) < (n : Int) := by omega
  have l4 : (3 : Int) ≤ (n : Int) := by omega
  go_enter Try.func12, Try.ntmps12
  go_wp2_with (go_at_call 13; refine (f13_any _ _).mono ?_; rintro e w' ⟨rfl, rfl⟩)
  go_ret2
  exact ⟨rfl, 0, rfl⟩

set_option maxHeartbeats 1000000 in
theorem f12_not2 (b off n c z1 z2 : Nat) (w : World) (hn : 3 ≤ n) (hn' : n ≤ 1048576) (h0 : w.cell? ⟨b, off, none⟩ = some (.int .u8 120)) (h1 : w.cell? ⟨b, off + 1, none⟩ = some (.int .u8 z1)) (h2 : w.cell? ⟨b, off + 2, none⟩ = some (.int .u8 z2))
    (x1 : Pl.isHexB z1 = true) (x2 : Pl.isHexB z2 = false) : Calls Try.prog 12 #[.slice (some ⟨b, off, none⟩) n c] w (UnOut 120 1 w) := by
  have l1 : (0 : Int) < (n : Int) := by omega
  have l2 : (1 : Int) < (n : Int) := by omega
  have l3 : (2 : Int) < (n : Int) := by omega
  have l4 : (3 : Int) ≤ (n : Int) := by omega
  go_enter Try.func12, Try.ntmps12
  go_wp2_with (go_at_call 13; refine (f13_any _ _).mono ?_; rintro e w' ⟨rfl, rfl⟩)
  go_ret2
  exact ⟨rfl, 0, rfl⟩

/-- unescape, at every row of at least one byte. -/
theorem f12_any (b off n c : Nat) (Z : Nat → Nat) (w : World) (hn : 1 ≤ n) (hn' : n ≤ 1048576) (hc : ∀ i, i < n → w.cell? ⟨b, off + i, none⟩ = some (.int .u8 (Z i))) :
    Calls Try.prog 12 #[.slice (some ⟨b, off, none⟩) n c] w (UnOut (Pl.outB n Z) (Pl.outN n Z) w) := by
  have h0 : w.cell? ⟨b, off, none⟩ = some (.int .u8 (Z 0)) := hc 0 (by omega)
  by_cases hx : Z 0 = 120
  · rw [hx] at h0
    have e120 : Pl.esc 120 = 120 := rfl
    by_cases h3 : 3 ≤ n
    · have h1 := hc 1 (by omega)
      have h2 := hc 2 (by omega)
      cases x1 : Pl.isHexB (Z 1)
      · have eo : Pl.hexEsc n Z = false := by simp [Pl.hexEsc, x1]
        have := f12_not1 b off n c (Z 1) w h3 hn' h0 h1 x1
        simpa [Pl.outB, Pl.outN, eo, hx, e120] using this
      · cases x2 : Pl.isHexB (Z 2)
        · have eo : Pl.hexEsc n Z = false := by simp [Pl.hexEsc, x2]
          have := f12_not2 b off n c (Z 1) (Z 2) w h3 hn' h0 h1 h2 x1 x2
          simpa [Pl.outB, Pl.outN, eo, hx, e120] using this
        · have eo : Pl.hexEsc n Z = true := by simp [Pl.hexEsc, x1, x2, hx, h3]
          have := f12_hex b off n c (Z 1) (Z 2) w h3 hn' h0 h1 h2 x1 x2
          simpa [Pl.outB, Pl.outN, eo] using this
    · have eo : Pl.hexEsc n Z = false := by simp [Pl.hexEsc, h3]
      have := f12_short b off n c w hn (by omega) h0
      simpa [Pl.outB, Pl.outN, eo, hx, e120] using this
  · have eo : Pl.hexEsc n Z = false := by simp [Pl.hexEsc, hx]
    have := f12_one b off n c (Z 0) w hn hn' h0 hx
    simpa [Pl.outB, Pl.outN, eo] using this

set_option maxHeartbeats 1000000 in
theorem f6_any (b off n c : Nat) (Z : Nat → Nat) (w : World) (hn : 1 ≤ n) (hn' : n ≤ 1048576) (hc : ∀ i, i < n → w.cell? ⟨b, off + i, none⟩ = some (.int .u8 (Z i))) :
    Calls Try.prog 6 #[.slice (some ⟨b, off, none⟩) n c] w (UnOut (Pl.outB n Z) (Pl.outN n Z) w) := by
  have HC : Hid (∀ i, i < n → w.cell? ⟨b, off + i, none⟩ = some (.int .u8 (Z i))) := hc
  clear hc
  go_enter Try.func6, Try.ntmps6
  go_wp2_with fail
  refine (f12_any b off n c Z _ hn hn' HC.out).mono ?_
  rintro e w' ⟨rfl, q, rfl⟩
  go_wp2
  go_ret2
  exact ⟨rfl, q, rfl⟩

end Go.Proofs.Qxb6628631a
