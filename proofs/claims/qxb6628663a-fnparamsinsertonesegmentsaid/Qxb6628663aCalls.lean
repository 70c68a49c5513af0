/-
  THE CONTRACTS of the functions that both laws of seat b6628663a call, but for zzPattern and Params (texts of their own).
-/
import Derived.Test.Qxb6628663aRows
import Derived.Test.Qxb6628663aPlain
import Derived.WalkKit
import Derived.WalkSpells
import Derived.WalkLawsBesides
import Derived.Deep.QuietTactic
import Derived.BigQuiet
namespace Go.Proofs.Qxb6628663a
open Go.RowKit

/-- The four cells of segment i behind ⟨b, off⟩. -/
def SegAt (w : World) (b off : Nat) (s : Nat → ByteArray) : Prop :=
  w.cell? ⟨b, off, none⟩ = some (.string (s 0)) ∧ w.cell? ⟨b, off + 1, none⟩ = some (.string (s 1)) ∧ w.cell? ⟨b, off + 2, none⟩ = some (.string (s 2)) ∧ w.cell? ⟨b, off + 3, none⟩ = some (.string (s 3))

/-- WHAT THE WALKS ARE TOLD OF A SLICE OF SEGMENTS: it has no element, or its cells, four a segment, hold S. -/
def SegRow (w : World) (a : Option Addr) (n : Nat) (S : Nat → Nat → ByteArray) : Prop :=
  n = 0 ∨ ∃ b off, a = some ⟨b, off, none⟩ ∧ ∀ i, i < n → SegAt w b (off + i * 4) (S i)

/-- A slice of strings. -/
def StrRow (w : World) (a : Option Addr) (n : Nat) (L : List ByteArray) : Prop :=
  n = 0 ∨ ∃ b off, a = some ⟨b, off, none⟩ ∧ ∀ i, i < n → w.cell? ⟨b, off + i, none⟩ = some (.string (L.getD i ByteArray.empty))

theorem ret_int {k : IntKind} {a b : Int} (h : a = b) : Ending.returned (.int k a) = .returned (.int k b) := by rw [h]

set_option maxHeartbeats 400000 in
theorem f9_any (a : Option Addr) (n c : Nat) (S : Nat → Nat → ByteArray) (w : World) (hn : n ≤ 1048577) (ha : SegRow w a n S) :
    Calls Try.prog 9 #[.slice a n c] w fun e w' => e = .returned (.int .i64 (Pl.names n S).length) ∧ w' = w := by
  go_enter Try.func9, Try.ntmps9
  go_wp2
  go_loop [3, 4] (fun t i => ∃ k : Nat, k ≤ n ∧ i = .int .i64 k ∧ t = .int .i64 (Pl.names k S).length) (fun _ i => n - (intOf i).toNat)
  case atStart => exact ⟨0, Nat.zero_le _, rfl, rfl⟩
  case round =>
    obtain ⟨k, hk, rfl, rfl⟩ := hrel
    have hle := Pl.names_le k S
    by_cases hlt : k < n
    · rcases ha with h0 | ⟨b, off, rfl, hc⟩
      · omega
      have cm := (hc k hlt).2.1
      have HN : Hid (Pl.names (k + 1) S = Pl.names k S ++ Pl.one (S k 1)) := Pl.names_succ k S
      clear hc
      generalize Pl.names k S = N at *
      generalize S k 1 = s at *
      cases he : s.toList.isEmpty
      · have HO : Hid (Pl.one s = [s]) := Pl.one_no he
        go_wp2
        go_round
        case rel => exact ⟨k + 1, by omega, by go_num, by rw [HN.out, HO.out, List.length_append]; simp⟩
        case measure => simp [intOf]; omega
      · have HO : Hid (Pl.one s = []) := Pl.one_yes he
        go_wp2
        go_round
        case rel => exact ⟨k + 1, by omega, by go_num, by rw [HN.out, HO.out, List.append_nil]⟩
        case measure => simp [intOf]; omega
    · obtain rfl : k = n := by omega
      go_wp2
      go_ret
      exact ⟨rfl, rfl⟩

/-- Some int came back; nothing that was there has turned. -/
def IntOut (w : World) (e : Ending) (w' : World) : Prop := ∃ r : Int, e = .returned (.int .i64 r) ∧ Below w.heap.size w w'
/-- Some bool came back, true only where there are at most 2^20 elements; nothing that was there has turned. -/
def BoundB (n : Nat) (w : World) (e : Ending) (w' : World) : Prop := ∃ b, e = .returned (.bool b) ∧ (b = true → n ≤ 1048576) ∧ Below w.heap.size w w'

set_option maxHeartbeats 400000 in
theorem f11_any (s0 s1 s2 s3 : ByteArray) (t : Int) (w : World) : Calls Try.prog 11 #[.agg #[.string s0, .string s1, .string s2, .string s3], .int .i64 t] w (IntOut w) := by
  go_enter Try.func11, Try.ntmps11
  go_wp2
  have hcells : Hid (∀ k, k < 5 → ∃ v : Int, ((w.alloc (.cells #[.string s0, .string s1, .string s2, .string s3] 32)).alloc (.cells #[.int .i64 64, .int .i64 s0.size, .int .i64 s1.size, .int .i64 s2.size, .int .i64 s3.size] 38)).cell? ⟨w.heap.size + 1, k, none⟩ = some (.int .i64 v)) := by
    intro k hk
    match k, hk with
    | 0, _ => exact ⟨64, by simp⟩
    | 1, _ => exact ⟨s0.size, by simp⟩
    | 2, _ => exact ⟨s1.size, by simp⟩
    | 3, _ => exact ⟨s2.size, by simp⟩
    | 4, _ => exact ⟨s3.size, by simp⟩
  have hB : Below w.heap.size w ((w.alloc (.cells #[.string s0, .string s1, .string s2, .string s3] 32)).alloc (.cells #[.int .i64 64, .int .i64 s0.size, .int .i64 s1.size, .int .i64 s2.size, .int .i64 s3.size] 38)) :=
    ((Below.refl _ _).alloc (Nat.le_refl _) _).alloc (by simp) _
  generalize (w.alloc (.cells #[.string s0, .string s1, .string s2, .string s3] 32)).alloc (.cells #[.int .i64 64, .int .i64 s0.size, .int .i64 s1.size, .int .i64 s2.size, .int .i64 s3.size] 38) = w2 at *
  go_loop [1, 6] (fun t i => ∃ (k : Nat) (z : Int), k ≤ 5 ∧ i = .int .i64 k ∧ t = .int .i64 z) (fun _ i => 5 - (intOf i).toNat)
  case atStart => exact ⟨0, _, Nat.zero_le _, rfl, rfl⟩
  case round =>
    obtain ⟨k, z, hk, rfl, rfl⟩ := hrel
    by_cases hlt : k < 5
    · obtain ⟨v, hv⟩ := hcells.out k hlt
      go_wp2
      · go_ret
        exact ⟨_, rfl, hB⟩
      · go_round
        case rel => exact ⟨k + 1, _, by omega, by go_num, rfl⟩
        case measure => simp [intOf]; omega
    · go_wp2
      go_ret
      exact ⟨_, rfl, hB⟩

/-- Old cells read as before. -/
theorem SegAt.below {w w' : World} {B b off : Nat} {s : Nat → ByteArray} (h : SegAt w b off s) (hb : Below B w w') (hB : b < B) : SegAt w' b off s :=
  ⟨(hb.cell (by exact hB)).trans h.1, (hb.cell (by exact hB)).trans h.2.1, (hb.cell (by exact hB)).trans h.2.2.1, (hb.cell (by exact hB)).trans h.2.2.2⟩
theorem SegAt.lt {w : World} {b off : Nat} {s : Nat → ByteArray} (h : SegAt w b off s) : b < w.heap.size := block_lt_of_cell h.1
theorem SegRow.below {w w' : World} {B : Nat} {a : Option Addr} {n : Nat} {S : Nat → Nat → ByteArray} (h : SegRow w a n S) (hb : Below B w w') (hB : w.heap.size ≤ B) : SegRow w' a n S := by
  rcases h with h | ⟨b, o, e, hc⟩
  · exact .inl h
  · exact .inr ⟨b, o, e, fun i hi => (hc i hi).below hb (Nat.lt_of_lt_of_le (hc i hi).lt hB)⟩
theorem StrRow.below {w w' : World} {B : Nat} {a : Option Addr} {n : Nat} {L : List ByteArray} (h : StrRow w a n L) (hb : Below B w w') (hB : w.heap.size ≤ B) : StrRow w' a n L := by
  rcases h with h | ⟨b, o, e, hc⟩
  · exact .inl h
  · refine .inr ⟨b, o, e, fun i hi => ?_⟩
    have := block_lt_of_cell (hc i hi)
    rw [hb.cell (by simp at this ⊢; omega)]
    exact hc i hi

set_option maxHeartbeats 400000 in
theorem f6_any (a : Option Addr) (n c : Nat) (S : Nat → Nat → ByteArray) (t : Int) (w : World) (hn : n ≤ 1048577) (ha : SegRow w a n S) :
    Calls Try.prog 6 #[.slice a n c, .int .i64 t] w (IntOut w) := by
  go_enter Try.func6, Try.ntmps6
  go_wp2
  go_loopw [1, 5] (fun t i wr => ∃ (k : Nat) (z : Int), k ≤ n ∧ i = .int .i64 k ∧ t = .int .i64 z ∧ Below w.heap.size w wr) (fun _ i _ => n - (intOf i).toNat)
  case atStart => exact ⟨0, _, Nat.zero_le _, rfl, rfl, Below.refl _ _⟩
  case round =>
    obtain ⟨k, z, hk, rfl, rfl, hb⟩ := hrel
    by_cases hlt : k < n
    · rcases ha with h0 | ⟨b, off, rfl, hc⟩
      · omega
      obtain ⟨c0, c1, c2, c3⟩ := (hc k hlt).below hb (hc k hlt).lt
      clear hc
      go_wp2_with fail
      refine (f11_any _ _ _ _ _ _).mono ?_
      rintro e w' ⟨r, rfl, hb'⟩
      have hB := hb.trans (hb'.mono hb.size)
      clear hb' c0 c1 c2 c3
      go_wp2
      · go_ret
        exact ⟨_, rfl, hB⟩
      · go_roundw
        case rel => exact ⟨k + 1, _, by omega, by go_num, rfl, hB⟩
        case measure => simp [intOf]; omega
    · go_wp2
      go_ret
      exact ⟨_, rfl, hb⟩

set_option maxRecDepth 100000 in
set_option maxHeartbeats 1000000 in
theorem f5_any (a : Option Addr) (n c : Nat) (S : Nat → Nat → ByteArray) (k : Int) (w : World) (hn : n ≤ 9223372036854775807) (ha : SegRow w a n S) :
    Calls Try.prog 5 #[.slice a n c, .int .i64 k] w (BoundB n w) := by
  by_cases h1 : (1048576 : Int) < n
  · go_enter Try.func5, Try.ntmps5
    go_wp2
    go_ret
    exact ⟨_, rfl, fun h => by simp at h, Below.refl _ _⟩
  have h1' : n ≤ 1048576 := by omega
  go_enter Try.func5, Try.ntmps5
  go_wp2
  go_loop [5, 6] (fun t i => ∃ (k z : Nat), k ≤ n ∧ z ≤ 1048576 ∧ i = .int .i64 k ∧ t = .int .i64 z) (fun _ i => n - (intOf i).toNat)
  case atStart => exact ⟨0, n, Nat.zero_le _, h1', rfl, rfl⟩
  case round =>
    obtain ⟨k, z, hk, hz, rfl, rfl⟩ := hrel
    by_cases hlt : k < n
    · rcases ha with h0 | ⟨b, off, rfl, hc⟩
      · omega
      obtain ⟨c0, c1, c2, c3⟩ := hc k hlt
      clear hc
      generalize S k 0 = s0 at *
      generalize S k 1 = s1 at *
      generalize S k 2 = s2 at *
      generalize S k 3 = s3 at *
      go_wp2
      case roundEnd =>
        go_round
        case rel => exact ⟨k + 1, z + s0.size + s1.size + s2.size + s3.size, by omega, by omega, by go_num, by go_num⟩
        case measure => simp [intOf]; omega
      all_goals
        go_ret
        exact ⟨_, rfl, fun _ => h1', Below.refl _ _⟩
    · go_wp2
      go_ret
      exact ⟨_, rfl, fun _ => h1', Below.refl _ _⟩

set_option maxRecDepth 100000 in
set_option maxHeartbeats 2000000 in
theorem f10_any (a : Option Addr) (n c : Nat) (S : Nat → Nat → ByteArray) (k : Int) (s0 s1 s2 s3 : ByteArray) (w : World) (hn : n ≤ 9223372036854775807) (ha : SegRow w a n S) :
    Calls Try.prog 10 #[.slice a n c, .int .i64 k, .agg #[.string s0, .string s1, .string s2, .string s3]] w (BoundB n w) := by
  have hB : Below w.heap.size w (w.alloc (.cells #[.string s0, .string s1, .string s2, .string s3] 32)) := (Below.refl _ _).alloc (Nat.le_refl _) _
  by_cases h1 : (1048576 : Int) < n
  · go_enter Try.func10, Try.ntmps10
    go_wp2
    go_ret
    exact ⟨_, rfl, fun h => by simp at h, hB⟩
  have h1' : n ≤ 1048576 := by omega
  have d0 : (w.alloc (.cells #[.string s0, .string s1, .string s2, .string s3] 32)).cell? ⟨w.heap.size, 0, none⟩ = some (.string s0) := by simp
  have d1 : (w.alloc (.cells #[.string s0, .string s1, .string s2, .string s3] 32)).cell? ⟨w.heap.size, 1, none⟩ = some (.string s1) := by simp
  have d2 : (w.alloc (.cells #[.string s0, .string s1, .string s2, .string s3] 32)).cell? ⟨w.heap.size, 2, none⟩ = some (.string s2) := by simp
  have d3 : (w.alloc (.cells #[.string s0, .string s1, .string s2, .string s3] 32)).cell? ⟨w.heap.size, 3, none⟩ = some (.string s3) := by simp
  go_enter Try.func10, Try.ntmps10
  go_wp2
  have ha := ha.below hB (Nat.le_refl _)
  generalize w.alloc (.cells #[.string s0, .string s1, .string s2, .string s3] 32) = w2 at *
  go_loop [7, 8] (fun t i => ∃ (k z : Nat), k ≤ n ∧ z ≤ 1048576 ∧ i = .int .i64 k ∧ t = .int .i64 z) (fun _ i => n - (intOf i).toNat)
  case atStart => exact ⟨0, n, Nat.zero_le _, h1', rfl, rfl⟩
  case round =>
    obtain ⟨k, z, hk, hz, rfl, rfl⟩ := hrel
    by_cases hlt : k < n
    · rcases ha with h0 | ⟨b, off, rfl, hc⟩
      · omega
      obtain ⟨c0, c1, c2, c3⟩ := hc k hlt
      clear hc
      generalize S k 0 = t0 at *
      generalize S k 1 = t1 at *
      generalize S k 2 = t2 at *
      generalize S k 3 = t3 at *
      go_wp2
      case roundEnd =>
        go_round
        case rel => exact ⟨k + 1, z + t0.size + t1.size + t2.size + t3.size, by omega, by omega, by go_num, by go_num⟩
        case measure => simp [intOf]; omega
      all_goals
        go_ret
        exact ⟨_, rfl, fun _ => h1', hB⟩
    · go_wp2
      all_goals
        go_ret
        exact ⟨_, rfl, fun _ => h1', hB⟩

set_option maxHeartbeats 1000000 in
/-- zzEqStrs at two lists that are equal. -/
theorem f12_same (a : Option Addr) (n c : Nat) (a' : Option Addr) (c' : Nat) (L : List ByteArray) (w : World) (hn : n ≤ 1048577) (ha : StrRow w a n L) (ha' : StrRow w a' n L) :
    Calls Try.prog 12 #[.slice a n c, .slice a' n c'] w fun e w' => e = .returned (.bool true) ∧ ∃ q, w' = w.drewN q := by
  go_enter Try.func12, Try.ntmps12
  go_wp2
  go_loopw [5] (fun i wr => ∃ k q : Nat, k ≤ n ∧ i = .int .i64 k ∧ wr = w.drewN q) (fun i _ => n - (intOf i).toNat)
  case atStart => exact ⟨0, 0, Nat.zero_le _, rfl, rfl⟩
  case round =>
    obtain ⟨k, q, hk, rfl, rfl⟩ := hrel
    by_cases hlt : k < n
    · rcases ha with h0 | ⟨b, off, rfl, hc⟩
      · omega
      rcases ha' with h0 | ⟨b', off', rfl, hc'⟩
      · omega
      have c1 := hc k hlt
      have c2 := hc' k hlt
      have l1 : (k : Int) < n := by omega
      clear hc hc'
      go_wp2
      go_quiet (fail)
      go_wp2
      go_roundw
      case rel => exact ⟨k + 1, _, by omega, by go_num, rfl⟩
      case measure => simp [intOf]; omega
    · go_wp2
      go_ret
      exact ⟨rfl, q, rfl⟩

end Go.Proofs.Qxb6628663a
