/-
  THE CONTRACTS of the functions that both laws of seat b6628544a call: one theorem a function.
-/
import Derived.Test.Qxb6628544aRows
import Derived.Test.Qxb6628544aPlain
import Derived.WalkKit
import Derived.WalkSpells
import Derived.WalkLawsBesides
import Derived.Deep.QuietTactic
import Derived.BigQuiet
namespace Go.Proofs.Qxb6628544a
open Go.RowKit

/-- WHAT THE WALKS ARE TOLD OF A SLICE OF STRINGS: it has no element, or its cells hold the strings S. -/
def StrRow (w : World) (a : Option Addr) (n : Nat) (S : Nat → ByteArray) : Prop :=
  n = 0 ∨ ∃ b off, a = some ⟨b, off, none⟩ ∧ ∀ i, i < n → w.cell? ⟨b, off + i, none⟩ = some (.string (S i))

/-- It returned some bool; nothing has turned. (Behind a name, so that the walk leaves it as it stands.) -/
def SomeB (w : World) (e : Ending) (w' : World) : Prop := ∃ b, e = .returned (.bool b) ∧ w = w'
/-- It returned some bool, true only where there are at most 2^20 elements; nothing has turned. -/
def BoundB (n : Nat) (w : World) (e : Ending) (w' : World) : Prop := ∃ b, e = .returned (.bool b) ∧ (b = true → n ≤ 1048576) ∧ w = w'
/-- It returned some bool, true only where the strings are sorted; some draws. -/
def SortB (n : Nat) (S : Nat → ByteArray) (w : World) (e : Ending) (w' : World) : Prop := ∃ b, e = .returned (.bool b) ∧ (b = true → Pl.Sorted n S) ∧ ∃ q, w' = w.drewN q

set_option maxHeartbeats 400000 in
theorem f14_any (x : ByteArray) (w : World) : Calls Try.prog 14 #[.string x] w fun e w' => e = .returned (.bool false) ∧ w' = w := by
  go_enter Try.func14, Try.ntmps14
  go_wp2
  go_ret
  exact ⟨by simp, rfl⟩

set_option maxHeartbeats 400000 in
theorem f13_any (x : ByteArray) (w : World) : Calls Try.prog 13 #[.string x] w fun e w' => e = .returned (.bool false) ∧ w' = w := by
  go_enter Try.func13, Try.ntmps13
  go_wp2
  go_ret
  exact ⟨by simp, rfl⟩

set_option maxHeartbeats 400000 in
theorem f12_any (x y : ByteArray) (w : World) : Calls Try.prog 12 #[.string x, .string y] w fun e w' => e = .returned (.bool (Op.bytesLess x.toList y.toList)) ∧ w' = w := by
  go_enter Try.func12, Try.ntmps12
  go_wp2_with (go_at_call 14; refine (f14_any _ _).mono ?_; rintro e w' ⟨rfl, rfl⟩)
  go_ret
  exact ⟨rfl, rfl⟩

set_option maxHeartbeats 400000 in
theorem f8_any (a : Option Addr) (n c : Nat) (S : Nat → ByteArray) (s : ByteArray) (w : World) (hn : n ≤ 2097152) (ha : StrRow w a n S) :
    Calls Try.prog 8 #[.slice a n c, .string s] w fun e w' => e = .returned (.bool (Pl.memB n S s)) ∧ w' = w := by
  go_enter Try.func8, Try.ntmps8
  go_wp2
  go_loop [5] (fun i => ∃ k : Nat, k ≤ n ∧ i = .int .i64 k ∧ ∀ j, j < k → ((S j).toList == s.toList) = false) (fun i => n - (intOf i).toNat)
  case atStart => exact ⟨0, Nat.zero_le _, rfl, fun j hj => by omega⟩
  case round =>
    obtain ⟨k, hk, rfl, hno⟩ := hrel
    have HN := hno
    replace HN : Hid (∀ j, j < k → ((S j).toList == s.toList) = false) := HN
    clear hno
    by_cases hlt : k < n
    · rcases ha with h0 | ⟨b, off, rfl, hc⟩
      · omega
      have cm := hc k hlt
      clear hc
      cases hy : ((S k).toList == s.toList)
      · go_wp2
        go_round
        case rel => exact ⟨k + 1, by omega, by go_num, fun j hj => by
          by_cases e : j = k
          · subst e; exact hy
          · exact HN.out j (by omega)⟩
        case measure => simp [intOf]; omega
      · go_wp2
        go_ret
        exact ⟨by rw [Pl.memB_yes k hlt hy]; rfl, rfl⟩
    · go_wp2
      go_ret
      exact ⟨by rw [Pl.memB_no fun j hj => HN.out j (by omega)]; rfl, rfl⟩


set_option maxHeartbeats 400000 in
theorem f11_any (a : Option Addr) (n c : Nat) (S : Nat → ByteArray) (x : ByteArray) (w : World) (hn : n ≤ 2097152) (ha : StrRow w a n S) (hs : Hid (Pl.Sorted n S)) :
    Calls Try.prog 11 #[.slice a n c, .string x] w fun e w' => ∃ r : Int, e = .returned (.tuple #[.int .i64 r, .bool (Pl.memB n S x)]) ∧ w' = w := by
  go_enter Try.func11, Try.ntmps11
  go_wp2
  go_loop [7, 8] (fun s7 s8 => ∃ lo hi : Nat, s7 = .int .i64 lo ∧ s8 = .int .i64 hi ∧ lo ≤ hi ∧ hi ≤ n ∧ Hid ((∀ t, t < lo → Op.bytesLess (S t).toList x.toList = true) ∧ (∀ t, hi ≤ t → t < n → Op.bytesLess (S t).toList x.toList = false)))
    (fun s7 s8 => (intOf s8).toNat - (intOf s7).toNat)
  case atStart => exact ⟨0, n, rfl, rfl, Nat.zero_le _, Nat.le_refl _, fun t ht => by omega, fun t h1 h2 => by omega⟩
  case round =>
    obtain ⟨lo, hi, rfl, rfl, hlh, hin, HB⟩ := hrel
    by_cases hlt : lo < hi
    · rcases ha with h0 | ⟨b, off, rfl, hc⟩
      · omega
      have cm : w.cell? ⟨b, off + (lo + hi) / 2, none⟩ = some (.string (S ((lo + hi) / 2))) := hc _ (by omega)
      clear hc
      cases hy : Op.bytesLess (S ((lo + hi) / 2)).toList x.toList
      · go_wp2_with (go_at_call 12; refine (f12_any _ _ _).mono ?_; rintro e w' ⟨rfl, rfl⟩)
        go_round
        case rel => exact ⟨lo, (lo + hi) / 2, rfl, by go_num, by omega, by omega, HB.out.1, Pl.bs_high hs.out hy⟩
        case measure => simp [intOf]; omega
      · go_wp2_with (go_at_call 12; refine (f12_any _ _ _).mono ?_; rintro e w' ⟨rfl, rfl⟩)
        go_round
        case rel => exact ⟨(lo + hi) / 2 + 1, hi, by go_num, rfl, by omega, by omega, Pl.bs_low hs.out (by omega) hy, HB.out.2⟩
        case measure => simp [intOf]; omega
    · have : hi = lo := by omega
      subst this
      by_cases hn : hi < n
      · rcases ha with h0 | ⟨b, off, rfl, hc⟩
        · omega
        have cm := hc hi hn
        clear hc
        have hf := Pl.bs_found hs.out HB.out.1 HB.out.2 hn
        cases hy : ((S hi).toList == x.toList)
        · have HF : Hid (Pl.memB n S x = false) := hf.trans hy
          clear hf
          go_wp2_with (go_at_call 13; refine (f13_any _ _).mono ?_; rintro e w' ⟨rfl, rfl⟩)
          go_ret2
          exact ⟨_, by rw [HF.out]; rfl, rfl⟩
        · have HF : Hid (Pl.memB n S x = true) := hf.trans hy
          clear hf
          go_wp2
          go_ret2
          exact ⟨⟨_, by rw [HF.out]; rfl⟩, rfl⟩
      · have HF : Hid (Pl.memB n S x = false) := Pl.bs_none HB.out.1 (by omega)
        go_wp2
        go_ret2
        exact ⟨⟨_, by rw [HF.out]; rfl⟩, rfl⟩

set_option maxHeartbeats 400000 in
theorem f9_any (a : Option Addr) (n c : Nat) (S : Nat → ByteArray) (q : ByteArray) (w : World) (hn : n ≤ 2097152) (ha : StrRow w a n S) (hs : Hid (Pl.Sorted n S)) :
    Calls Try.prog 9 #[.slice a n c, .string q] w fun e w' => e = .returned (.bool (Pl.memB n S q || Pl.memB n S ⟨#[42]⟩)) ∧ w' = w := by
  go_enter Try.func9, Try.ntmps9
  go_wp2_with fail
  refine (f11_any a n c S q _ hn ha hs).mono ?_
  rintro e w' ⟨r, rfl, rfl⟩
  cases h1 : Pl.memB n S q
  all_goals
    go_wp2_with fail
    refine (f11_any a n c S ⟨#[42]⟩ _ hn ha hs).mono ?_
    rintro e w' ⟨r, rfl, rfl⟩
    cases h2 : Pl.memB n S ⟨#[42]⟩
  all_goals
    go_wp2
    go_ret
    exact ⟨by rw [h1, h2]; rfl, rfl⟩

set_option maxHeartbeats 400000 in
theorem f7_any (a : Option Addr) (n c : Nat) (S : Nat → ByteArray) (w : World) (hn : n ≤ 1048576) (ha : StrRow w a n S) :
    Calls Try.prog 7 #[.slice a n c] w (SortB n S w) := by
  go_enter Try.func7, Try.ntmps7
  go_wp2
  go_loopw [3] (fun i wr => ∃ k q : Nat, (k ≤ n ∨ k = 1) ∧ 1 ≤ k ∧ i = .int .i64 k ∧ wr = w.drewN q ∧ ∀ j, j + 1 < k → Op.bytesLess (S j).toList (S (j + 1)).toList = true) (fun i _ => n - (intOf i).toNat)
  case atStart => exact ⟨1, 0, by omega, by omega, rfl, rfl, fun j hj => by omega⟩
  case round =>
    obtain ⟨k, q, hk, hk1, rfl, rfl, hno⟩ := hrel
    have HN : Hid (∀ j, j + 1 < k → Op.bytesLess (S j).toList (S (j + 1)).toList = true) := hno
    clear hno
    by_cases hlt : k < n
    · rcases ha with h0 | ⟨b, off, rfl, hc⟩
      · omega
      obtain ⟨m, rfl⟩ : ∃ m, k = m + 1 := ⟨k - 1, by omega⟩
      have cm : w.cell? ⟨b, off + (m + 1), none⟩ = some (.string (S (m + 1))) := hc (m + 1) hlt
      have cn := hc m (by omega)
      clear hc
      have hi0 : (0 : Int) ≤ ((m + 1 : Nat) : Int) - 1 := by omega
      have hi1 : ((m + 1 : Nat) : Int) - 1 < (n : Int) := by omega
      have hi2 : ((m + 1 : Nat) : Int) < (n : Int) := by omega
      cases hy : Op.bytesLess (S m).toList (S (m + 1)).toList
      · go_wp2
        go_quiet (fail)
        go_wp2
        go_ret
        exact ⟨_, rfl, (fun h => by cases h), _, World.drewN_drewN _ _ _⟩
      · go_wp2
        go_quiet (fail)
        go_wp2
        go_roundw
        case rel => exact ⟨m + 1 + 1, _, by omega, by omega, by go_num, rfl, fun j hj => by
          by_cases e : j = m
          · subst e; exact hy
          · exact HN.out j (by omega)⟩
        case measure => simp [intOf]; omega
    · go_wp2
      go_ret
      exact ⟨_, rfl, fun _ => Pl.sorted_of fun j hj => HN.out j (by omega), _, rfl⟩


set_option maxHeartbeats 400000 in
theorem f6_any (a : Option Addr) (n c : Nat) (S : Nat → ByteArray) (x y : ByteArray) (w : World) (hn : n ≤ 1048576) (ha : StrRow w a n S) :
    Calls Try.prog 6 #[.slice a n c, .string x, .string y] w (SomeB w) := by
  by_cases h1 : (65536 : Int) < n
  · go_enter Try.func6, Try.ntmps6
    go_wp2
    go_ret
    exact ⟨_, rfl, rfl⟩
  by_cases h2 : (65536 : Int) < x.size
  · go_enter Try.func6, Try.ntmps6
    go_wp2
    go_ret
    exact ⟨_, rfl, rfl⟩
  by_cases h3 : (65536 : Int) < y.size
  · go_enter Try.func6, Try.ntmps6
    go_wp2
    go_ret
    exact ⟨_, rfl, rfl⟩
  go_enter Try.func6, Try.ntmps6
  go_wp2
  go_loop [7, 8] (fun t i => ∃ (k : Nat) (z : Int), k ≤ n ∧ i = .int .i64 k ∧ t = .int .i64 z) (fun _ i => n - (intOf i).toNat)
  case atStart => exact ⟨0, _, Nat.zero_le _, rfl, rfl⟩
  case round =>
    obtain ⟨k, z, hk, rfl, rfl⟩ := hrel
    by_cases hlt : k < n
    · rcases ha with h0 | ⟨b, off, rfl, hc⟩
      · omega
      have cm := hc k hlt
      clear hc
      go_wp2
      · go_ret
        exact ⟨_, rfl, rfl⟩
      · go_round
        case rel => exact ⟨k + 1, _, by omega, by go_num, rfl⟩
        case measure => simp [intOf]; omega
    · go_wp2
      go_ret
      exact ⟨_, rfl, rfl⟩


set_option maxHeartbeats 400000 in
theorem f5_any (a : Option Addr) (n c : Nat) (S : Nat → ByteArray) (x y : ByteArray) (w : World) (hn : n ≤ 9223372036854775807) (ha : StrRow w a n S) :
    Calls Try.prog 5 #[.slice a n c, .string x, .string y] w (BoundB n w) := by
  by_cases h1 : (1048576 : Int) < n
  · go_enter Try.func5, Try.ntmps5
    go_wp2
    go_ret
    exact ⟨_, rfl, fun h => by simp at h, rfl⟩
  have h1' : n ≤ 1048576 := by omega
  go_enter Try.func5, Try.ntmps5
  go_wp2
  go_loop [7, 8] (fun t i => ∃ (k z : Nat), k ≤ n ∧ z ≤ 1048576 ∧ i = .int .i64 k ∧ t = .int .i64 z) (fun _ i => n - (intOf i).toNat)
  case atStart => exact ⟨0, n, Nat.zero_le _, h1', rfl, rfl⟩
  case round =>
    obtain ⟨k, z, hk, hz, rfl, rfl⟩ := hrel
    by_cases hlt : k < n
    · rcases ha with h0 | ⟨b, off, rfl, hc⟩
      · omega
      have cm := hc k hlt
      clear hc
      go_wp2
      · go_ret
        exact ⟨_, rfl, fun _ => h1', rfl⟩
      · go_ret
        exact ⟨_, rfl, fun _ => h1', rfl⟩
      · go_round
        case rel => exact ⟨k + 1, z + (S k).size, by omega, by omega, by go_num, by go_num⟩
        case measure => simp [intOf]; omega
    · go_wp2
      all_goals
        go_ret
        exact ⟨_, rfl, fun _ => h1', rfl⟩

set_option maxHeartbeats 400000 in
theorem f10_any (a : Option Addr) (n c : Nat) (S : Nat → ByteArray) (x : Int) (y : ByteArray) (w : World) (hn : n ≤ 9223372036854775807) (ha : StrRow w a n S) :
    Calls Try.prog 10 #[.slice a n c, .int .i64 x, .string y] w (BoundB n w) := by
  by_cases h1 : (1048576 : Int) < n
  · go_enter Try.func10, Try.ntmps10
    go_wp2
    go_ret
    exact ⟨_, rfl, fun h => by simp at h, rfl⟩
  have h1' : n ≤ 1048576 := by omega
  go_enter Try.func10, Try.ntmps10
  go_wp2
  go_loop [7, 8] (fun t i => ∃ (k z : Nat), k ≤ n ∧ z ≤ 1048576 ∧ i = .int .i64 k ∧ t = .int .i64 z) (fun _ i => n - (intOf i).toNat)
  case atStart => exact ⟨0, n, Nat.zero_le _, h1', rfl, rfl⟩
  case round =>
    obtain ⟨k, z, hk, hz, rfl, rfl⟩ := hrel
    by_cases hlt : k < n
    · rcases ha with h0 | ⟨b, off, rfl, hc⟩
      · omega
      have cm := hc k hlt
      clear hc
      go_wp2
      · go_ret
        exact ⟨_, rfl, fun _ => h1', rfl⟩
      · go_ret
        exact ⟨_, rfl, fun _ => h1', rfl⟩
      · go_round
        case rel => exact ⟨k + 1, z + (S k).size, by omega, by omega, by go_num, by go_num⟩
        case measure => simp [intOf]; omega
    · go_wp2
      all_goals
        go_ret
        exact ⟨_, rfl, fun _ => h1', rfl⟩

end Go.Proofs.Qxb6628544a
