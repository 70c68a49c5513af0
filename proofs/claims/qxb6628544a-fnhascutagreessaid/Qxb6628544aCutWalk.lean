/-
  THE WALK of 'FnHasCutAgrees' (function 4).
-/
import Derived.Test.Qxb6628544aMem
namespace Go.Proofs.Qxb6628544a
open Go.RowKit

set_option maxHeartbeats 1000000 in
theorem f4_walk (a : Option Addr) (n c : Nat) (S : Nat → ByteArray) (k : Int) (q : ByteArray) (w : World) (hn : n ≤ 9223372036854775807) (ha : StrRow w a n S) (hnil : a = none → n = 0 ∧ c = 0) :
    Calls Try.prog 4 #[.slice a n c, .int .i64 k, .string q] w (LawOut w) := by
  have qn : ∀ (w : World) (a : Option Addr) (n c n' c' : Nat), (binOp .neq 22 (.slice a n c) (.slice none n' c')).run Try.prog w = .ok (.bool (!a.isNone)) w := fun w a n c n' c' => run_neq_slice_nil_any w _ _ a n c n' c' Try.underlying22
  go_enter Try.func4, Try.ntmps4
  go_wp2_with fail
  refine (f10_any a n c S k q _ hn ha).mono ?_
  rintro e w' ⟨b, rfl, hb, rfl⟩
  cases b
  · go_wp2
    go_ret
    exact ⟨rfl, Below.refl _ _⟩
  have hn1 := hb rfl
  clear hb hn
  go_wp2_with fail
  refine (f6_any a n c S q ⟨#[]⟩ _ hn1 ha).mono ?_
  rintro e w' ⟨b, rfl, rfl⟩
  cases b
  rotate_left
  · go_wp2
    go_ret
    exact ⟨rfl, Below.refl _ _⟩
  by_cases hk0 : k < 0
  · go_wp2
    go_ret
    exact ⟨rfl, Below.refl _ _⟩
  by_cases hk1 : (n : Int) < k
  · go_wp2
    go_ret
    exact ⟨rfl, Below.refl _ _⟩
  go_wp2_with fail
  refine (f7_any a n c S _ hn1 ha).mono ?_
  rintro e w' ⟨b, rfl, hs, q1, rfl⟩
  have hB1 := below_drewN' w.heap.size w q1
  have hz1 : w.heap.size ≤ (w.drewN q1).heap.size := Nat.le_refl _
  replace ha := ha.drewN q1
  generalize w.drewN q1 = w1 at *
  cases b
  · go_wp2
    go_ret
    exact ⟨rfl, hB1⟩
  replace hs : Hid (Pl.Sorted n S) := hs rfl
  obtain ⟨m, rfl⟩ : ∃ m : Nat, k = m := ⟨k.toNat, by omega⟩
  have hmn : m ≤ n := by omega
  cases a with
  | none =>
    obtain ⟨rfl, rfl⟩ := hnil rfl
    obtain rfl : m = 0 := by omega
    have hm : ∀ s, Pl.memB 0 S s = false := fun s => Pl.memB_no fun i hi => by omega
    go_wp2_with (first
      | (go_at_call 9; refine (f9_any none 0 0 S q _ (by omega) (.inl rfl) hs).mono ?_; rintro e w' ⟨rfl, rfl⟩)
      | (go_at_call_of 8 (Value.string q); refine (f8_any none 0 0 S q _ (by omega) (.inl rfl)).mono ?_; rintro e w' ⟨rfl, rfl⟩)
      | (go_at_call_of 8 (Value.string ⟨#[42]⟩); refine (f8_any none 0 0 S ⟨#[42]⟩ _ (by omega) (.inl rfl)).mono ?_; rintro e w' ⟨rfl, rfl⟩))
    go_ret
    exact ⟨rfl, hB1⟩
  | some ad =>
    have hmk := run_make_row' (P := Try.prog) 22 9 (.string ByteArray.empty) 16 Try.underlying22 Try.info9 rfl .i64 .i64 n (by omega) (by omega)
    obtain ⟨w2, hcp, hg2, hB2, hz2⟩ := copy_made (P := Try.prog) w1 22 9 3 Try.underlying22 Try.size9 (.string ByteArray.empty) n c ad (cellsOf n S) (cellsOf_length n S) ha.src (cellsOf_one n S)
    have hS2 : StrRow w2 (some ⟨w1.heap.size, 0, none⟩) n S := StrRow.made hg2 (fun i hi => cellsOf_get n S i hi)
    have hB : Below w.heap.size w w2 := hB1.trans (hB2.mono hz1)
    clear hg2 hz2 hB2 hnil hk0 hk1
    by_cases e : n = m
    · subst e
      have hm : ∀ s, Pl.memB 0 S s = false := fun s => Pl.memB_no fun i hi => by omega
      have hs0 : Hid (Pl.Sorted 0 S) := hs.out.front 0 (Nat.zero_le _)
      cases hA1 : Pl.memB n S q <;> cases hA2 : Pl.memB n S ⟨#[42]⟩
      all_goals
        go_wp2_with (first
          | (go_at_call_of 9 (Value.slice (some ⟨w1.heap.size, 0, none⟩) n n); refine (f9_any _ n n S q _ (by omega) hS2 hs).mono ?_; rintro e w' ⟨rfl, rfl⟩)
          | (go_at_call_of 9 (Value.slice (some ⟨w1.heap.size, 0, none⟩) 0 0); refine (f9_any _ 0 0 S q _ (by omega) (.inl rfl) hs0).mono ?_; rintro e w' ⟨rfl, rfl⟩)
          | (go_at_call_of 8 (Value.slice (some ⟨w1.heap.size, 0, none⟩) n n); go_at_call_of 8 (Value.string q); refine (f8_any _ n n S q _ (by omega) hS2).mono ?_; rintro e w' ⟨rfl, rfl⟩)
          | (go_at_call_of 8 (Value.slice (some ⟨w1.heap.size, 0, none⟩) n n); go_at_call_of 8 (Value.string ⟨#[42]⟩); refine (f8_any _ n n S ⟨#[42]⟩ _ (by omega) hS2).mono ?_; rintro e w' ⟨rfl, rfl⟩)
          | (go_at_call_of 8 (Value.string q); refine (f8_any _ 0 0 S q _ (by omega) (.inl rfl)).mono ?_; rintro e w' ⟨rfl, rfl⟩)
          | (go_at_call_of 8 (Value.string ⟨#[42]⟩); refine (f8_any _ 0 0 S ⟨#[42]⟩ _ (by omega) (.inl rfl)).mono ?_; rintro e w' ⟨rfl, rfl⟩))
        go_ret
        exact ⟨rfl, hB⟩
    · have hlm : m < n := by omega
      obtain ⟨SR, hSR⟩ : ∃ SR, SR = fun i => S (m + i) := ⟨_, rfl⟩
      have hSL : StrRow w2 (some ⟨w1.heap.size, 0, none⟩) m S := hS2.front m hmn
      have hSRr : StrRow w2 (some ⟨w1.heap.size, m, none⟩) (n - m) SR := by
        have h := hS2.part m (n - m) (by omega)
        rw [Nat.zero_add] at h
        rw [hSR]; exact h
      have hsL : Hid (Pl.Sorted m S) := hs.out.front m hmn
      have hsR : Hid (Pl.Sorted (n - m) SR) := by rw [hSR]; exact hs.out.part m (n - m) (by omega)
      have k1 : Pl.memB n S q = (Pl.memB m S q || Pl.memB (n - m) SR q) := by rw [hSR]; exact Pl.memB_cut hmn
      have k2 : Pl.memB n S ⟨#[42]⟩ = (Pl.memB m S ⟨#[42]⟩ || Pl.memB (n - m) SR ⟨#[42]⟩) := by rw [hSR]; exact Pl.memB_cut hmn
      clear hSR e ha hz1 hB1
      cases hL1 : Pl.memB m S q <;> cases hL2 : Pl.memB m S ⟨#[42]⟩ <;> cases hR1 : Pl.memB (n - m) SR q <;> cases hR2 : Pl.memB (n - m) SR ⟨#[42]⟩ <;> rw [hL1, hR1] at k1 <;> rw [hL2, hR2] at k2 <;>
        simp only [Bool.or_true, Bool.or_false] at k1 k2
      all_goals
        go_wp2_with (first
          | (go_at_call_of 9 (Value.slice (some ⟨w1.heap.size, 0, none⟩) n n); refine (f9_any _ n n S q _ (by omega) hS2 hs).mono ?_; rintro e w' ⟨rfl, rfl⟩)
          | (go_at_call_of 9 (Value.slice (some ⟨w1.heap.size, 0, none⟩) m n); refine (f9_any _ m n S q _ (by omega) hSL hsL).mono ?_; rintro e w' ⟨rfl, rfl⟩)
          | (go_at_call 9; refine (f9_any _ (n - m) (n - m) SR q _ (by omega) hSRr hsR).mono ?_; rintro e w' ⟨rfl, rfl⟩)
          | (go_at_call_of 8 (Value.slice (some ⟨w1.heap.size, 0, none⟩) n n); go_at_call_of 8 (Value.string q); refine (f8_any _ n n S q _ (by omega) hS2).mono ?_; rintro e w' ⟨rfl, rfl⟩)
          | (go_at_call_of 8 (Value.slice (some ⟨w1.heap.size, 0, none⟩) n n); go_at_call_of 8 (Value.string ⟨#[42]⟩); refine (f8_any _ n n S ⟨#[42]⟩ _ (by omega) hS2).mono ?_; rintro e w' ⟨rfl, rfl⟩)
          | (go_at_call_of 8 (Value.slice (some ⟨w1.heap.size, 0, none⟩) m n); go_at_call_of 8 (Value.string q); refine (f8_any _ m n S q _ (by omega) hSL).mono ?_; rintro e w' ⟨rfl, rfl⟩)
          | (go_at_call_of 8 (Value.slice (some ⟨w1.heap.size, 0, none⟩) m n); go_at_call_of 8 (Value.string ⟨#[42]⟩); refine (f8_any _ m n S ⟨#[42]⟩ _ (by omega) hSL).mono ?_; rintro e w' ⟨rfl, rfl⟩)
          | (go_at_call_of 8 (Value.string q); refine (f8_any _ (n - m) (n - m) SR q _ (by omega) hSRr).mono ?_; rintro e w' ⟨rfl, rfl⟩)
          | (go_at_call_of 8 (Value.string ⟨#[42]⟩); refine (f8_any _ (n - m) (n - m) SR ⟨#[42]⟩ _ (by omega) hSRr).mono ?_; rintro e w' ⟨rfl, rfl⟩))
        go_ret
        exact ⟨rfl, hB⟩

end Go.Proofs.Qxb6628544a
