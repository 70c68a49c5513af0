/-
  THE PLAIN LAW of seat b6628544a: no Go in sight. Strings in the model's own order ('Op.bytesLess'), sorted rows of strings, membership, insertion.
-/
import Derived.WalkKit
namespace Go.Proofs.Qxb6628544a.Pl

theorem less_irrefl : ∀ x : List UInt8, Op.bytesLess x x = false
  | [] => by simp [Op.bytesLess]
  | a :: x => by simp [Op.bytesLess, less_irrefl x]

theorem less_trans : ∀ x y z : List UInt8, Op.bytesLess x y = true → Op.bytesLess y z = true → Op.bytesLess x z = true
  | [], [], _ => by simp [Op.bytesLess]
  | [], _ :: _, [] => by simp [Op.bytesLess]
  | [], _ :: _, _ :: _ => by simp [Op.bytesLess]
  | _ :: _, [], _ => by simp [Op.bytesLess]
  | _ :: _, _ :: _, [] => by simp [Op.bytesLess]
  | a :: x, b :: y, c :: z => by
    have ih := less_trans x y z
    simp only [Op.bytesLess, Bool.or_eq_true, Bool.and_eq_true, decide_eq_true_eq, beq_iff_eq]
    rintro (h1 | ⟨h1, h2⟩) (h3 | ⟨h3, h4⟩)
    · left; rw [UInt8.lt_iff_toNat_lt] at *; omega
    · subst h3; left; exact h1
    · subst h1; left; exact h3
    · subst h1; subst h3; right; exact ⟨rfl, ih h2 h4⟩

theorem less_total : ∀ x y : List UInt8, Op.bytesLess x y = true ∨ x = y ∨ Op.bytesLess y x = true
  | [], [] => by simp
  | [], _ :: _ => by simp [Op.bytesLess]
  | _ :: _, [] => by simp [Op.bytesLess]
  | a :: x, b :: y => by
    have ih := less_total x y
    simp only [Op.bytesLess, Bool.or_eq_true, Bool.and_eq_true, decide_eq_true_eq, beq_iff_eq, List.cons.injEq]
    rcases Nat.lt_trichotomy a.toNat b.toNat with h | h | h
    · left; left; rw [UInt8.lt_iff_toNat_lt]; exact h
    · have e : a = b := UInt8.toNat_inj.1 h
      subst e
      rcases ih with h | h | h
      · left; right; exact ⟨rfl, h⟩
      · right; left; exact ⟨rfl, h⟩
      · right; right; right; exact ⟨rfl, h⟩
    · right; right; left; rw [UInt8.lt_iff_toNat_lt]; exact h

/-- Does s occur among the first n strings? -/
def memB (n : Nat) (S : Nat → ByteArray) (s : ByteArray) : Bool := (List.range n).any fun i => (S i).toList == s.toList

/-- The first n strings are sorted, each once. -/
def Sorted (n : Nat) (S : Nat → ByteArray) : Prop := ∀ i j, i < j → j < n → Op.bytesLess (S i).toList (S j).toList = true

theorem memB_iff {n : Nat} {S : Nat → ByteArray} {s : ByteArray} : memB n S s = true ↔ ∃ i, i < n ∧ (S i).toList = s.toList := by
  simp [memB]

theorem memB_no {n : Nat} {S : Nat → ByteArray} {s : ByteArray} (h : ∀ i, i < n → ((S i).toList == s.toList) = false) : memB n S s = false := by
  cases e : memB n S s with
  | false => rfl
  | true =>
    obtain ⟨i, hi, he⟩ := memB_iff.1 e
    have := h i hi
    simp [he] at this

theorem memB_yes {n : Nat} {S : Nat → ByteArray} {s : ByteArray} (i : Nat) (h : i < n) (he : ((S i).toList == s.toList) = true) : memB n S s = true :=
  memB_iff.2 ⟨i, h, by simpa using he⟩

/-- Neighbours in order: all in order. -/
theorem sorted_of {n : Nat} {S : Nat → ByteArray} (h : ∀ i, i + 1 < n → Op.bytesLess (S i).toList (S (i + 1)).toList = true) : Sorted n S := by
  intro i j hij hj
  induction j with
  | zero => omega
  | succ j ih =>
    by_cases e : i = j
    · subst e; exact h i hj
    · exact less_trans _ _ _ (ih (by omega) (by omega)) (h j hj)

theorem Sorted.part {n : Nat} {S : Nat → ByteArray} (h : Sorted n S) (k m : Nat) (hk : k + m ≤ n) : Sorted m (fun i => S (k + i)) :=
  fun i j hij hj => h (k + i) (k + j) (by omega) (by omega)

theorem Sorted.front {n : Nat} {S : Nat → ByteArray} (h : Sorted n S) (k : Nat) (hk : k ≤ n) : Sorted k S :=
  fun i j hij hj => h i j hij (by omega)

/-! ### The binary search -/

theorem bs_low {n : Nat} {S : Nat → ByteArray} (h : Sorted n S) {x : ByteArray} {m : Nat} (hm : m < n) (hl : Op.bytesLess (S m).toList x.toList = true) : ∀ t, t < m + 1 → Op.bytesLess (S t).toList x.toList = true := by
  intro t ht
  by_cases e : t = m
  · subst e; exact hl
  · exact less_trans _ _ _ (h t m (by omega) hm) hl

theorem bs_high {n : Nat} {S : Nat → ByteArray} (h : Sorted n S) {x : ByteArray} {m : Nat} (hl : Op.bytesLess (S m).toList x.toList = false) : ∀ t, m ≤ t → t < n → Op.bytesLess (S t).toList x.toList = false := by
  intro t ht hn
  by_cases e : t = m
  · subst e; exact hl
  · cases hc : Op.bytesLess (S t).toList x.toList with
    | false => rfl
    | true => rw [less_trans _ _ _ (h m t (by omega) hn) hc] at hl; cases hl

/-- What the search finds is membership. -/
theorem bs_found {n lo : Nat} {S : Nat → ByteArray} (h : Sorted n S) {x : ByteArray} (hl : ∀ t, t < lo → Op.bytesLess (S t).toList x.toList = true) (hh : ∀ t, lo ≤ t → t < n → Op.bytesLess (S t).toList x.toList = false)
    (hn : lo < n) : memB n S x = ((S lo).toList == x.toList) := by
  cases e : ((S lo).toList == x.toList) with
  | true => exact memB_yes lo hn e
  | false =>
    refine memB_no fun i hi => ?_
    rw [beq_eq_false_iff_ne] at *
    intro hc
    rcases Nat.lt_trichotomy i lo with h1 | h1 | h1
    · have := hl i h1
      rw [hc, less_irrefl] at this; cases this
    · subst h1; exact e hc
    · have := h lo i h1 hi
      rw [hc] at this
      rw [hh lo (Nat.le_refl _) hn] at this; cases this

theorem bs_none {n lo : Nat} {S : Nat → ByteArray} {x : ByteArray} (hl : ∀ t, t < lo → Op.bytesLess (S t).toList x.toList = true) (hn : n ≤ lo) : memB n S x = false := by
  refine memB_no fun i hi => ?_
  rw [beq_eq_false_iff_ne]
  intro hc
  have := hl i (by omega)
  rw [hc, less_irrefl] at this; cases this

/-! ### The cut -/

theorem memB_cut {n k : Nat} {S : Nat → ByteArray} {s : ByteArray} (hk : k ≤ n) : memB n S s = (memB k S s || memB (n - k) (fun i => S (k + i)) s) := by
  rw [Bool.eq_iff_iff, Bool.or_eq_true, memB_iff, memB_iff, memB_iff]
  constructor
  · rintro ⟨i, hi, he⟩
    by_cases h : i < k
    · exact .inl ⟨i, h, he⟩
    · exact .inr ⟨i - k, by omega, by rw [show k + (i - k) = i by omega]; exact he⟩
  · rintro (⟨i, hi, he⟩ | ⟨i, hi, he⟩)
    · exact ⟨i, by omega, he⟩
    · exact ⟨k + i, by omega, he⟩

theorem cut_or (a b c d : Bool) : ((a || b) || (c || d)) = ((a || c) || (b || d)) := by cases a <;> cases b <;> cases c <;> cases d <;> rfl

/-! ### The insertion -/

/-- x put at place i. -/
def ins (S : Nat → ByteArray) (i : Nat) (x : ByteArray) : Nat → ByteArray := fun j => if j < i then S j else if j = i then x else S (j - 1)

theorem ins_lt {S : Nat → ByteArray} {i j : Nat} {x : ByteArray} (h : j < i) : ins S i x j = S j := by simp [ins, h]
theorem ins_at {S : Nat → ByteArray} {i : Nat} {x : ByteArray} : ins S i x i = x := by simp [ins]
theorem ins_gt {S : Nat → ByteArray} {i j : Nat} {x : ByteArray} (h : i ≤ j) : ins S i x (j + 1) = S j := by
  unfold ins
  rw [if_neg (by omega), if_neg (by omega)]
  rfl

theorem sorted_ins {n i : Nat} {S : Nat → ByteArray} {x : ByteArray} (h : Sorted n S) (hi : i ≤ n) (hl : ∀ t, t < i → Op.bytesLess (S t).toList x.toList = true)
    (hx : i < n → Op.bytesLess (S i).toList x.toList = false ∧ (S i).toList ≠ x.toList) : Sorted (n + 1) (ins S i x) := by
  apply sorted_of
  intro j hj
  by_cases h1 : j + 1 < i
  · rw [ins_lt (by omega), ins_lt h1]; exact h j (j + 1) (by omega) (by omega)
  · by_cases h2 : j + 1 = i
    · rw [ins_lt (by omega), h2, ins_at]; exact hl j (by omega)
    · by_cases h3 : j = i
      · subst h3
        rw [ins_at, ins_gt (Nat.le_refl _)]
        obtain ⟨a, b⟩ := hx (by omega)
        rcases less_total (S j).toList x.toList with h | h | h
        · rw [a] at h; cases h
        · exact absurd h b
        · exact h
      · obtain ⟨m, rfl⟩ : ∃ m, j = m + 1 := ⟨j - 1, by omega⟩
        rw [ins_gt (by omega), ins_gt (by omega)]; exact h m (m + 1) (by omega) (by omega)

theorem memB_ins {n i : Nat} {S : Nat → ByteArray} {x s : ByteArray} (hi : i ≤ n) : memB (n + 1) (ins S i x) s = (memB n S s || (s.toList == x.toList)) := by
  rw [Bool.eq_iff_iff, Bool.or_eq_true, memB_iff, memB_iff, beq_iff_eq]
  constructor
  · rintro ⟨j, hj, he⟩
    by_cases h1 : j < i
    · rw [ins_lt h1] at he; exact .inl ⟨j, by omega, he⟩
    · by_cases h2 : j = i
      · subst h2; rw [ins_at] at he; exact .inr he.symm
      · obtain ⟨m, rfl⟩ : ∃ m, j = m + 1 := ⟨j - 1, by omega⟩
        rw [ins_gt (by omega)] at he; exact .inl ⟨m, by omega, he⟩
  · rintro (⟨j, hj, he⟩ | he)
    · by_cases h1 : j < i
      · exact ⟨j, by omega, by rw [ins_lt h1]; exact he⟩
      · exact ⟨j + 1, by omega, by rw [ins_gt (by omega)]; exact he⟩
    · exact ⟨i, by omega, by rw [ins_at]; exact he.symm⟩

end Go.Proofs.Qxb6628544a.Pl
