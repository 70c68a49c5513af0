/-
  THE PLAIN LAW of seat b6628663a: the parameter names of a row of segments. No walk here. 'S i f': field f of segment i; field 1 is Param.
-/
import Derived.WalkKit
namespace Go.Proofs.Qxb6628663a.Pl

/-- What one segment names. -/
def one (s : ByteArray) : List ByteArray := if s.toList.isEmpty then [] else [s]
/-- The parameter names of the first n segments, in order. -/
def names (n : Nat) (S : Nat → Nat → ByteArray) : List ByteArray := (List.range n).flatMap fun i => one (S i 1)

theorem one_yes {s : ByteArray} (h : s.toList.isEmpty = true) : one s = [] := by simp [one, h]
theorem one_no {s : ByteArray} (h : s.toList.isEmpty = false) : one s = [s] := by simp [one, h]
theorem one_le (s : ByteArray) : (one s).length ≤ 1 := by
  unfold one; split <;> simp

theorem names_zero (S : Nat → Nat → ByteArray) : names 0 S = [] := rfl
theorem names_succ (k : Nat) (S : Nat → Nat → ByteArray) : names (k + 1) S = names k S ++ one (S k 1) := by
  simp [names, List.range_succ]
theorem names_le (n : Nat) (S : Nat → Nat → ByteArray) : (names n S).length ≤ n := by
  induction n with
  | zero => simp [names]
  | succ k ih =>
    rw [names_succ, List.length_append]
    have := one_le (S k 1)
    omega

theorem names_congr {n : Nat} {S T : Nat → Nat → ByteArray} (h : ∀ i, i < n → S i 1 = T i 1) : names n S = names n T := by
  induction n with
  | zero => rfl
  | succ k ih => rw [names_succ, names_succ, ih (fun i hi => h i (by omega)), h k (by omega)]

/-- Cut in two. -/
theorem names_cut (k m : Nat) (S : Nat → Nat → ByteArray) : names (k + m) S = names k S ++ names m (fun i => S (k + i)) := by
  induction m with
  | zero => simp [names_zero]
  | succ m ih => rw [← Nat.add_assoc, names_succ, ih, names_succ, List.append_assoc]

theorem names_one (S : Nat → Nat → ByteArray) : names 1 S = one (S 0 1) := by rw [names_succ, names_zero, List.nil_append]

/-- Cut around segment k. -/
theorem names_around {n k : Nat} (hk : k < n) (S : Nat → Nat → ByteArray) : names n S = names k S ++ (one (S k 1) ++ names (n - (k + 1)) (fun i => S (k + 1 + i))) := by
  have e : n = (k + 1) + (n - (k + 1)) := by omega
  conv => lhs; rw [e]
  rw [names_cut, names_succ, List.append_assoc]

/-- Segment T put in at place k. -/
def ins (S : Nat → Nat → ByteArray) (k : Nat) (T : Nat → ByteArray) : Nat → Nat → ByteArray := fun i => if i < k then S i else if i = k then T else S (i - 1)

theorem ins_lt {S : Nat → Nat → ByteArray} {k i : Nat} {T : Nat → ByteArray} (h : i < k) : ins S k T i = S i := by simp [ins, h]
theorem ins_at {S : Nat → Nat → ByteArray} {k : Nat} {T : Nat → ByteArray} : ins S k T k = T := by simp [ins]
theorem ins_gt {S : Nat → Nat → ByteArray} {k i : Nat} {T : Nat → ByteArray} (h : k ≤ i) : ins S k T (i + 1) = S i := by
  unfold ins
  rw [if_neg (by omega), if_neg (by omega)]
  rfl

theorem names_ins {n k : Nat} (hk : k ≤ n) (S : Nat → Nat → ByteArray) (T : Nat → ByteArray) : names (n + 1) (ins S k T) = names k S ++ (one (T 1) ++ names (n - k) (fun i => S (k + i))) := by
  rw [names_around (n := n + 1) (k := k) (by omega)]
  rw [names_congr (n := k) (T := S) (fun i hi => by rw [ins_lt hi]), ins_at]
  congr 2
  rw [show n + 1 - (k + 1) = n - k by omega]
  exact names_congr fun i hi => by rw [show k + 1 + i = (k + i) + 1 by omega, ins_gt (by omega)]

theorem getD_left (L X : List ByteArray) (d : ByteArray) (i : Nat) (hi : i < L.length) : (L ++ X).getD i d = L.getD i d := by
  simp [List.getElem?_append_left hi]
theorem getD_right (L X : List ByteArray) (d : ByteArray) (i : Nat) : (L ++ X).getD (L.length + i) d = X.getD i d := by
  rw [List.getD_eq_getElem?_getD, List.getD_eq_getElem?_getD, List.getElem?_append_right (by omega)]
  congr 2
  omega

end Go.Proofs.Qxb6628663a.Pl
