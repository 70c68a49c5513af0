/-
  THE PLAIN LAW of seat b6628590aF: which bytes may stand in a fund id, and what a string's decoding gives at such a byte. No walk here.
-/
import Derived.WalkKit
namespace Go.Proofs.Qxb6628590aFmt.Pl

/-- The bytes (or runes) that may stand in an id. -/
def okC (c : Nat) : Bool := (97 ≤ c && c ≤ 122) || (65 ≤ c && c ≤ 90) || (48 ≤ c && c ≤ 57) || c == 45 || c == 95

theorem okC_cases {c : Nat} (h : okC c = true) : (97 ≤ c ∧ c ≤ 122) ∨ (65 ≤ c ∧ c ≤ 90) ∨ (48 ≤ c ∧ c ≤ 57) ∨ c = 45 ∨ c = 95 := by
  simp [okC] at h
  omega

theorem okC_not {c : Nat} (h : okC c = false) : c < 45 ∨ (45 < c ∧ c < 48) ∨ (57 < c ∧ c < 65) ∨ (90 < c ∧ c < 95) ∨ (95 < c ∧ c < 97) ∨ 122 < c := by
  simp [okC] at h
  omega

theorem okC_lt {c : Nat} (h : okC c = true) : c < 128 := by have := okC_cases h; omega
theorem okC_high {c : Nat} (h : 128 ≤ c) : okC c = false := by
  cases e : okC c with
  | false => rfl
  | true => have := okC_lt e; omega

/-- Every byte may stand there. -/
def okAll (l : List UInt8) : Bool := l.all fun c => okC c.toNat
/-- The id is accepted. -/
def accB (s : ByteArray) : Bool := !s.data.toList.isEmpty && okAll s.data.toList

theorem okAll_append (a b : List UInt8) : okAll (a ++ b) = (okAll a && okAll b) := by simp [okAll]

theorem getElem_data (s : ByteArray) (i : Nat) (h : i < s.size) : s.data.toList[i]? = some s[i] := by
  have h' : i < s.data.toList.length := by simpa using h
  rw [List.getElem?_eq_getElem h']
  rfl

theorem okAll_of {s : ByteArray} (h : ∀ i (hi : i < s.size), okC (s[i]).toNat = true) : okAll s.data.toList = true := by
  rw [okAll, List.all_eq_true]
  intro c hc
  obtain ⟨i, hi⟩ := List.getElem?_of_mem hc
  have hlt : i < s.size := by
    have := (List.getElem?_eq_some_iff.1 hi).1
    simpa using this
  rw [getElem_data s i hlt] at hi
  cases hi
  exact h i hlt

theorem okAll_not {s : ByteArray} (i : Nat) (hi : i < s.size) (h : okC (s[i]).toNat = false) : okAll s.data.toList = false := by
  cases e : okAll s.data.toList with
  | false => rfl
  | true =>
    rw [okAll, List.all_eq_true] at e
    have := e s[i] (List.mem_of_getElem? (getElem_data s i hi))
    rw [h] at this; cases this

theorem accB_of {s : ByteArray} (h0 : 0 < s.size) (h : ∀ i (hi : i < s.size), okC (s[i]).toNat = true) : accB s = true := by
  rw [accB, okAll_of h]
  cases e : s.data.toList with
  | nil =>
    have hz : s.data.toList.length = 0 := by rw [e]; rfl
    have hz' : s.size = 0 := by simpa using hz
    omega
  | cons x l => rfl

theorem accB_not {s : ByteArray} (i : Nat) (hi : i < s.size) (h : okC (s[i]).toNat = false) : accB s = false := by
  rw [accB, okAll_not i hi h, Bool.and_false]

theorem accB_empty {s : ByteArray} (h : s.size = 0) : accB s = false := by
  have : s.data.toList = [] := List.eq_nil_of_length_eq_zero (by simpa using h)
  simp [accB, this]

/-- A byte that may stand there decodes to itself. -/
theorem decode_ok (s : ByteArray) (i : Nat) (hi : i < s.size) (h : okC (s[i]).toNat = true) : Utf8.decode s i = ((s[i]).toNat, 1) := decode_ascii s i hi (okC_lt h)

/-- A byte that may not stand there decodes to a rune that may not. -/
theorem decode_bad (s : ByteArray) (i : Nat) (hi : i < s.size) (h : okC (s[i]).toNat = false) : okC (Utf8.decode s i).1 = false := by
  by_cases ha : (s[i]).toNat < 128
  · rw [decode_ascii s i hi ha]; exact h
  · exact okC_high (decode_high s i hi (by omega)).1

end Go.Proofs.Qxb6628590aFmt.Pl
