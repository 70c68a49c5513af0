/-
  THE CONTRACTS of the functions that both laws of seat b6628631a call.
-/
import Derived.Test.Qxb6628631aRows
import Derived.Test.Qxb6628631aPlain
import Derived.WalkKit
import Derived.WalkSpells
import Derived.WalkLawsBesides
import Derived.Deep.QuietTactic
import Derived.BigQuiet
namespace Go.Proofs.Qxb6628631a
open Go.RowKit

/-- WHAT THE WALKS ARE TOLD OF A SLICE OF BYTES: it has no element, or its cells hold the bytes Z. -/
def ByteRow (w : World) (a : Option Addr) (n : Nat) (Z : Nat → Nat) : Prop :=
  n = 0 ∨ ∃ b off, a = some ⟨b, off, none⟩ ∧ ∀ i, i < n → w.cell? ⟨b, off + i, none⟩ = some (.int .u8 (Z i)) ∧ Z i < 256

theorem ret_bool {a b : Bool} (h : a = b) : Ending.returned (.bool a) = .returned (.bool b) := by rw [h]
set_option maxHeartbeats 400000 in
theorem f13_any (c : Nat) (w : World) : Calls Try.prog 13 #[.int .u8 c] w fun e w' => e = .returned (.bool (Pl.isHexB c)) ∧ w' = w := by
  cases h : Pl.isHexB c
  · rcases Pl.hex_not h with h' | ⟨h', h''⟩ | ⟨h', h''⟩ | h' <;> clear h
    all_goals
      go_enter Try.func13, Try.ntmps13
      go_wp2
      go_ret
      exact ⟨ret_bool (by first | rfl | (simp; omega)), rfl⟩
  · rcases Pl.hex_cases h with ⟨h', h''⟩ | ⟨h', h''⟩ | ⟨h', h''⟩ <;> clear h
    all_goals
      go_enter Try.func13, Try.ntmps13
      go_wp2
      go_ret
      exact ⟨ret_bool (by first | rfl | (simp; omega)), rfl⟩

theorem ret_int {k : IntKind} {a b : Int} (h : a = b) : Ending.returned (.int k a) = .returned (.int k b) := by rw [h]

set_option maxHeartbeats 400000 in
theorem f14_any (c : Nat) (w : World) (h : Pl.isHexB c = true) : Calls Try.prog 14 #[.int .u8 c] w fun e w' => e = .returned (.int .u8 (Pl.hv c)) ∧ w' = w := by
  rcases Pl.hex_cases h with ⟨h', h''⟩ | ⟨h', h''⟩ | ⟨h', h''⟩ <;> clear h
  · have hv : Hid (Pl.hv c = c - 48) := by show _ = _; unfold Pl.hv; rw [if_pos (by omega)]
    go_enter Try.func14, Try.ntmps14
    go_wp2
    go_ret
    exact ⟨ret_int (by rw [hv.out]; omega), rfl⟩
  · have hv : Hid (Pl.hv c = c - 87) := by show _ = _; unfold Pl.hv; rw [if_neg (by omega), if_neg (by omega)]
    go_enter Try.func14, Try.ntmps14
    go_wp2
    go_ret
    exact ⟨ret_int (by rw [hv.out]; omega), rfl⟩
  · have hv : Hid (Pl.hv c = c - 55) := by show _ = _; unfold Pl.hv; rw [if_neg (by omega), if_pos (by omega)]
    go_enter Try.func14, Try.ntmps14
    go_wp2
    go_ret
    exact ⟨ret_int (by rw [hv.out]; omega), rfl⟩

/-- The string of the sixteen digits, at place k. -/
theorem digits_at (k : Nat) (hk : k < 16) (h : k < (ByteArray.mk #[48, 49, 50, 51, 52, 53, 54, 55, 56, 57, 97, 98, 99, 100, 101, 102]).size) :
    ((ByteArray.mk #[48, 49, 50, 51, 52, 53, 54, 55, 56, 57, 97, 98, 99, 100, 101, 102])[k]'h).toNat = Pl.dig k := by
  have : ∀ j : Fin 16, ((ByteArray.mk #[48, 49, 50, 51, 52, 53, 54, 55, 56, 57, 97, 98, 99, 100, 101, 102])[j.val]'(by have := j.isLt; exact this)).toNat = Pl.dig j.val := by decide
  exact this ⟨k, hk⟩

theorem digit_eq (k : Nat) (hk : k < 16) (h : k < (ByteArray.mk #[48, 49, 50, 51, 52, 53, 54, 55, 56, 57, 97, 98, 99, 100, 101, 102]).size) (x : Int) (b : Bool)
    (hh : ((((ByteArray.mk #[48, 49, 50, 51, 52, 53, 54, 55, 56, 57, 97, 98, 99, 100, 101, 102])[k]'h).toNat : Int) == x) = b) : (((Pl.dig k : Nat) : Int) == x) = b := by
  rw [digits_at k hk h] at hh
  exact hh

/-- What hexDigitValue comes to. -/
def DigOut (c : Nat) (w : World) (e : Ending) (w' : World) : Prop :=
  w = w' ∧ ((Pl.isHexB c = true ∧ e = .returned (.tuple #[.int .i64 (Pl.hv c), .bool true])) ∨ (Pl.isHexB c = false ∧ e = .returned (.tuple #[.int .i64 0, .bool false])))

set_option maxHeartbeats 400000 in
theorem f7_any (c : Nat) (hc : c < 256) (w : World) : Calls Try.prog 7 #[.int .u8 c] w (DigOut c w) := by
  rcases (show (65 ≤ c ∧ c ≤ 90) ∨ c < 65 ∨ 90 < c from by omega) with h1 | h1 | h1
  · have HL : Hid (Pl.lowC c = c + 32) := by show _ = _; unfold Pl.lowC; rw [if_pos h1]
    obtain ⟨h1, h2⟩ := h1
    go_enter Try.func7, Try.ntmps7
    go_wp2
    go_loop [4] (fun i => ∃ k : Nat, k ≤ 16 ∧ i = .int .i64 k ∧ Hid (∀ j, j < k → Pl.dig j ≠ Pl.lowC c)) (fun i => 16 - (intOf i).toNat)
    case atStart => exact ⟨0, Nat.zero_le _, rfl, fun j hj => by omega⟩
    case round =>
      obtain ⟨k, hk, rfl, HN⟩ := hrel
      by_cases hlt : k < 16
      · go_wp2
        · have hh := digit_eq k hlt (show k < _ from hlt) ((c : Int) + 32) true (by assumption)
          rw [beq_iff_eq] at hh
          have hit := Pl.dig_hit hlt (c := c) (by rw [HL.out]; omega)
          go_ret2
          exact ⟨rfl, .inl ⟨hit.1, by rw [hit.2]; rfl⟩⟩
        · have hh := digit_eq k hlt (show k < _ from hlt) ((c : Int) + 32) false (by assumption)
          rw [beq_eq_false_iff_ne] at hh
          go_round
          case rel => exact ⟨k + 1, by omega, by go_num, fun j hj => by
            by_cases e : j = k
            · subst e; rw [HL.out]; omega
            · exact HN.out j (by omega)⟩
          case measure => simp [intOf]; omega
      · have hm := Pl.dig_miss (c := c) (fun j hj => HN.out j (by omega))
        go_wp2
        go_ret2
        exact ⟨rfl, .inr ⟨hm, rfl⟩⟩
  · have HL : Hid (Pl.lowC c = c) := by show _ = _; unfold Pl.lowC; rw [if_neg (by omega)]
    go_enter Try.func7, Try.ntmps7
    go_wp2
    go_loop [4] (fun i => ∃ k : Nat, k ≤ 16 ∧ i = .int .i64 k ∧ Hid (∀ j, j < k → Pl.dig j ≠ Pl.lowC c)) (fun i => 16 - (intOf i).toNat)
    case atStart => exact ⟨0, Nat.zero_le _, rfl, fun j hj => by omega⟩
    case round =>
      obtain ⟨k, hk, rfl, HN⟩ := hrel
      by_cases hlt : k < 16
      · go_wp2
        · have hh := digit_eq k hlt (show k < _ from hlt) ((c : Int)) true (by assumption)
          rw [beq_iff_eq] at hh
          have hit := Pl.dig_hit hlt (c := c) (by rw [HL.out]; omega)
          go_ret2
          exact ⟨rfl, .inl ⟨hit.1, by rw [hit.2]; rfl⟩⟩
        · have hh := digit_eq k hlt (show k < _ from hlt) ((c : Int)) false (by assumption)
          rw [beq_eq_false_iff_ne] at hh
          go_round
          case rel => exact ⟨k + 1, by omega, by go_num, fun j hj => by
            by_cases e : j = k
            · subst e; rw [HL.out]; omega
            · exact HN.out j (by omega)⟩
          case measure => simp [intOf]; omega
      · have hm := Pl.dig_miss (c := c) (fun j hj => HN.out j (by omega))
        go_wp2
        go_ret2
        exact ⟨rfl, .inr ⟨hm, rfl⟩⟩
  · have HL : Hid (Pl.lowC c = c) := by show _ = _; unfold Pl.lowC; rw [if_neg (by omega)]
    go_enter Try.func7, Try.ntmps7
    go_wp2
    go_loop [4] (fun i => ∃ k : Nat, k ≤ 16 ∧ i = .int .i64 k ∧ Hid (∀ j, j < k → Pl.dig j ≠ Pl.lowC c)) (fun i => 16 - (intOf i).toNat)
    case atStart => exact ⟨0, Nat.zero_le _, rfl, fun j hj => by omega⟩
    case round =>
      obtain ⟨k, hk, rfl, HN⟩ := hrel
      by_cases hlt : k < 16
      · go_wp2
        · have hh := digit_eq k hlt (show k < _ from hlt) ((c : Int)) true (by assumption)
          rw [beq_iff_eq] at hh
          have hit := Pl.dig_hit hlt (c := c) (by rw [HL.out]; omega)
          go_ret2
          exact ⟨rfl, .inl ⟨hit.1, by rw [hit.2]; rfl⟩⟩
        · have hh := digit_eq k hlt (show k < _ from hlt) ((c : Int)) false (by assumption)
          rw [beq_eq_false_iff_ne] at hh
          go_round
          case rel => exact ⟨k + 1, by omega, by go_num, fun j hj => by
            by_cases e : j = k
            · subst e; rw [HL.out]; omega
            · exact HN.out j (by omega)⟩
          case measure => simp [intOf]; omega
      · have hm := Pl.dig_miss (c := c) (fun j hj => HN.out j (by omega))
        go_wp2
        go_ret2
        exact ⟨rfl, .inr ⟨hm, rfl⟩⟩

set_option maxHeartbeats 400000 in
theorem f8_any (c : Nat) (hc : c < 256) (w : World) : Calls Try.prog 8 #[.int .u8 c] w fun e w' => e = .returned (.int .u8 (Pl.flip c)) ∧ w' = w := by
  rcases (show (97 ≤ c ∧ c ≤ 102) ∨ (65 ≤ c ∧ c ≤ 70) ∨ c < 65 ∨ (70 < c ∧ c < 97) ∨ 102 < c from by omega) with ⟨h1, h2⟩ | ⟨h1, h2⟩ | h1 | ⟨h1, h2⟩ | h1
  · have HL : Hid (Pl.flip c = c - 32) := by show _ = _; unfold Pl.flip; rw [if_pos ⟨h1, h2⟩]
    go_enter Try.func8, Try.ntmps8
    go_wp2
    go_ret
    exact ⟨ret_int (by rw [HL.out]; omega), rfl⟩
  · have HL : Hid (Pl.flip c = c + 32) := by show _ = _; unfold Pl.flip; rw [if_neg (by omega), if_pos ⟨h1, h2⟩]
    go_enter Try.func8, Try.ntmps8
    go_wp2
    go_ret
    exact ⟨ret_int (by rw [HL.out]; omega), rfl⟩
  all_goals
    have HL : Hid (Pl.flip c = c) := by show _ = _; unfold Pl.flip; rw [if_neg (by omega), if_neg (by omega)]
    go_enter Try.func8, Try.ntmps8
    go_wp2
    go_ret
    exact ⟨ret_int (by rw [HL.out]), rfl⟩

/-- Some bool came back; nothing has turned. -/
def SomeB (w : World) (e : Ending) (w' : World) : Prop := ∃ b, e = .returned (.bool b) ∧ w = w'

set_option maxHeartbeats 400000 in
theorem f9_any (a : Option Addr) (n c : Nat) (w : World) (hn : n ≤ 9223372036854775807) : Calls Try.prog 9 #[.slice a n c] w (SomeB w) := by
  by_cases h : (1048576 : Int) < n
  all_goals
    go_enter Try.func9, Try.ntmps9
    go_wp2
    go_ret
    exact ⟨_, rfl, rfl⟩

set_option maxHeartbeats 400000 in
theorem f5_any (a : Option Addr) (n c : Nat) (a' : Option Addr) (n' c' : Nat) (w : World) (hn : n ≤ 9223372036854775807) (hn' : n' ≤ 9223372036854775807) : Calls Try.prog 5 #[.slice a n c, .slice a' n' c'] w (SomeB w) := by
  by_cases h : (1048576 : Int) < n
  · go_enter Try.func5, Try.ntmps5
    go_wp2
    go_ret
    exact ⟨_, rfl, rfl⟩
  · go_enter Try.func5, Try.ntmps5
    go_wp2
    all_goals
      go_ret
      exact ⟨_, rfl, rfl⟩

set_option maxHeartbeats 400000 in
theorem f11_any (c : Nat) (w : World) : Calls Try.prog 11 #[.int .u8 c] w fun e w' => e = .returned (.int .u8 (Pl.esc c)) ∧ w' = w := by
  by_cases h1 : c = 110
  · subst h1
    go_enter Try.func11, Try.ntmps11
    go_wp2
    go_ret
    exact ⟨rfl, rfl⟩
  by_cases h2 : c = 114
  · subst h2
    go_enter Try.func11, Try.ntmps11
    go_wp2
    go_ret
    exact ⟨rfl, rfl⟩
  by_cases h3 : c = 116
  · subst h3
    go_enter Try.func11, Try.ntmps11
    go_wp2
    go_ret
    exact ⟨rfl, rfl⟩
  by_cases h4 : c = 98
  · subst h4
    go_enter Try.func11, Try.ntmps11
    go_wp2
    go_ret
    exact ⟨rfl, rfl⟩
  by_cases h5 : c = 97
  · subst h5
    go_enter Try.func11, Try.ntmps11
    go_wp2
    go_ret
    exact ⟨rfl, rfl⟩
  have HE : Hid (Pl.esc c = c) := by show _ = _; simp [Pl.esc, h1, h2, h3, h4, h5]
  have q1 : ((c : Int) == 110) = false := by rw [beq_eq_false_iff_ne]; omega
  have q2 : ((c : Int) == 114) = false := by rw [beq_eq_false_iff_ne]; omega
  have q3 : ((c : Int) == 116) = false := by rw [beq_eq_false_iff_ne]; omega
  have q4 : ((c : Int) == 98) = false := by rw [beq_eq_false_iff_ne]; omega
  have q5 : ((c : Int) == 97) = false := by rw [beq_eq_false_iff_ne]; omega
  go_enter Try.func11, Try.ntmps11
  go_wp2
  go_ret
  exact ⟨ret_int (by rw [HE.out]), rfl⟩

end Go.Proofs.Qxb6628631a
