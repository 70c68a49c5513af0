/-
  THE PLAIN LAW of seat b6628631a: hexadecimal digits, escapes. No walk here. Bytes are natural numbers below 256.
-/
import Derived.WalkKit
namespace Go.Proofs.Qxb6628631a.Pl

/-- A hexadecimal digit. -/
def isHexB (c : Nat) : Bool := (48 ≤ c && c ≤ 57) || (97 ≤ c && c ≤ 102) || (65 ≤ c && c ≤ 70)
/-- Its value. -/
def hv (c : Nat) : Nat := if c ≤ 57 then c - 48 else if c ≤ 70 then c - 55 else c - 87
/-- The other case. -/
def flip (c : Nat) : Nat := if 97 ≤ c ∧ c ≤ 102 then c - 32 else if 65 ≤ c ∧ c ≤ 70 then c + 32 else c
/-- The one-letter escapes. -/
def esc (c : Nat) : Nat := if c = 110 then 10 else if c = 114 then 13 else if c = 116 then 9 else if c = 98 then 8 else if c = 97 then 7 else c

theorem hex_cases {c : Nat} (h : isHexB c = true) : (48 ≤ c ∧ c ≤ 57) ∨ (97 ≤ c ∧ c ≤ 102) ∨ (65 ≤ c ∧ c ≤ 70) := by
  simp [isHexB] at h
  omega
theorem hex_not {c : Nat} (h : isHexB c = false) : c < 48 ∨ (57 < c ∧ c < 65) ∨ (70 < c ∧ c < 97) ∨ 102 < c := by
  simp [isHexB] at h
  omega
theorem hex_of {c : Nat} (h : (48 ≤ c ∧ c ≤ 57) ∨ (97 ≤ c ∧ c ≤ 102) ∨ (65 ≤ c ∧ c ≤ 70)) : isHexB c = true := by
  simp [isHexB]
  omega
theorem hv_lt {c : Nat} (h : isHexB c = true) : hv c < 16 := by
  have := hex_cases h
  unfold hv
  split
  · omega
  · split <;> omega
theorem flip_hex {c : Nat} (h : isHexB c = true) : isHexB (flip c) = true := by
  have := hex_cases h
  unfold flip
  split
  · exact hex_of (by omega)
  · split
    · exact hex_of (by omega)
    · exact h
theorem flip_hv {c : Nat} (h : isHexB c = true) : hv (flip c) = hv c := by
  rcases hex_cases h with ⟨a, b⟩ | ⟨a, b⟩ | ⟨a, b⟩
  · unfold flip; rw [if_neg (by omega), if_neg (by omega)]
  · unfold flip; rw [if_pos ⟨a, b⟩]; unfold hv; rw [if_neg (by omega), if_pos (by omega), if_neg (by omega), if_neg (by omega)]; omega
  · unfold flip; rw [if_neg (by omega), if_pos ⟨a, b⟩]; unfold hv; rw [if_neg (by omega), if_neg (by omega), if_neg (by omega), if_pos (by omega)]; omega
theorem flip_lt {c : Nat} (h : c < 256) : flip c < 256 := by
  unfold flip
  split
  · omega
  · split <;> omega
theorem esc_lt {c : Nat} (h : c < 256) : esc c < 256 := by
  unfold esc
  repeat' split
  all_goals omega
theorem esc_esc (c : Nat) : esc (esc c) = esc c := by
  by_cases h1 : c = 110
  · subst h1; rfl
  by_cases h2 : c = 114
  · subst h2; rfl
  by_cases h3 : c = 116
  · subst h3; rfl
  by_cases h4 : c = 98
  · subst h4; rfl
  by_cases h5 : c = 97
  · subst h5; rfl
  have : esc c = c := by simp [esc, h1, h2, h3, h4, h5]
  rw [this, this]

/-- The digits, in order. -/
def dig (j : Nat) : Nat := if j < 10 then 48 + j else 87 + j
/-- An upper case letter, lowered. -/
def lowC (c : Nat) : Nat := if 65 ≤ c ∧ c ≤ 90 then c + 32 else c

theorem dig_hit {c k : Nat} (hk : k < 16) (h : dig k = lowC c) : isHexB c = true ∧ hv c = k := by
  unfold dig lowC at h
  constructor
  · apply hex_of
    split at h <;> split at h <;> omega
  · unfold hv
    split at h <;> split at h
    all_goals
      split
      · omega
      · split <;> omega
theorem dig_miss {c : Nat} (h : ∀ j, j < 16 → dig j ≠ lowC c) : isHexB c = false := by
  cases e : isHexB c with
  | false => rfl
  | true =>
    exfalso
    have hl := hv_lt e
    apply h (hv c) hl
    rcases hex_cases e with ⟨a, b⟩ | ⟨a, b⟩ | ⟨a, b⟩
    · have e1 : hv c = c - 48 := by unfold hv; rw [if_pos (by omega)]
      rw [e1]; unfold dig lowC; rw [if_pos (by omega), if_neg (by omega)]; omega
    · have e1 : hv c = c - 87 := by unfold hv; rw [if_neg (by omega), if_neg (by omega)]
      rw [e1]; unfold dig lowC; rw [if_neg (by omega), if_neg (by omega)]; omega
    · have e1 : hv c = c - 55 := by unfold hv; rw [if_neg (by omega), if_pos (by omega)]
      rw [e1]; unfold dig lowC; rw [if_neg (by omega), if_pos (by omega)]; omega

/-- Is it an escape 'x' with two digits? -/
def hexEsc (n : Nat) (Z : Nat → Nat) : Bool := Z 0 == 120 && decide (3 ≤ n) && isHexB (Z 1) && isHexB (Z 2)
/-- The byte. -/
def outB (n : Nat) (Z : Nat → Nat) : Nat := if hexEsc n Z then hv (Z 1) * 16 + hv (Z 2) else esc (Z 0)
/-- How many bytes it takes. -/
def outN (n : Nat) (Z : Nat → Nat) : Nat := if hexEsc n Z then 3 else 1

end Go.Proofs.Qxb6628631a.Pl
