/-
  THE CONTRACT of (Pattern).Params (function 8).
-/
import Derived.Test.Qxb6628663aCalls
namespace Go.Proofs.Qxb6628663a
open Go.RowKit

theorem Try.info9 : (Try.prog.info? 9).map (fun i => (i.zero, i.size, i.bytes)) = some (some (.string ByteArray.empty), 1, 16) := by kernel_rfl

/-- The names came back, in memory of the call's own; nothing that was there has turned. -/
def NamesOut (L : List ByteArray) (w : World) (e : Ending) (w' : World) : Prop := ∃ a c, e = .returned (.slice a L.length c) ∧ StrRow w' a L.length L ∧ Below w.heap.size w w'

/-- What is owned, as a row of strings. -/
theorem strRow_of_owns {w : World} {base : Nat} {v : Value} {L : List ByteArray} (h : w.ownsRow base 9 1 v L.length (L.map .string)) : ∃ a c, v = .slice a L.length c ∧ StrRow w a L.length L := by
  rcases h.2 with ⟨rfl, h0⟩ | ⟨g, cap, cur, rfl, _, hg, _, _, _, ht⟩
  · exact ⟨none, 0, by rw [h0], .inl h0⟩
  · refine ⟨_, cap, rfl, .inr ⟨g, 0, rfl, fun i hi => ?_⟩⟩
    rw [Nat.zero_add, h.cellAt i (by omega)]
    simp [hi]

theorem Below.owned_append {B : Nat} {w wr w' : World} {v : Value} {A C : Obj} {n : Nat} {xs : List Value} (hb : Below B w wr) (hown : wr.ownsRow B 9 1 v n xs) (hB : B ≤ wr.heap.size) (hg : ((wr.alloc A).alloc C).grownBy w' v.ownBlock) : Below B w w' := by
  have h2 : Below B w ((wr.alloc A).alloc C) := (hb.alloc hB _).alloc (by simp; omega) _
  refine h2.grown hg (by simp; omega) (fun k hk => ?_)
  exact (hown.lt k hk).1

set_option maxHeartbeats 1000000 in
theorem f8_any (a : Option Addr) (n c : Nat) (S : Nat → Nat → ByteArray) (w : World) (hn : n ≤ 1048577) (ha : SegRow w a n S) :
    Calls Try.prog 8 #[.agg #[.slice a n c]] w (NamesOut (Pl.names n S) w) := by
  obtain ⟨i0, hi, hz0, hz1, hz2⟩ := info_parts Try.info9
  have hB0 : Below w.heap.size w (w.alloc (.cells #[.slice a n c] 28)) := (Below.refl _ _).alloc (Nat.le_refl _) _
  go_enter Try.func8, Try.ntmps8
  go_wp2
  generalize w.alloc (.cells #[.slice a n c] 28) = w2 at *
  go_loopw [3, 9] (fun v i wr => ∃ k : Nat, k ≤ n ∧ i = .int .i64 k ∧ Hid (wr.ownsRow w.heap.size 9 1 v (Pl.names k S).length ((Pl.names k S).map .string)) ∧ Below w.heap.size w wr) (fun _ i _ => n - (intOf i).toNat)
  case atStart => exact ⟨0, Nat.zero_le _, rfl, World.ownsRow_nil _ _ _ _, hB0⟩
  case round =>
    clear hB0
    obtain ⟨k, hk, rfl, hown, hb⟩ := hrel
    have hle := Pl.names_le k S
    have hsz := hb.size
    by_cases hlt : k < n
    · rcases ha with h0 | ⟨b, off, rfl, hc⟩
      · omega
      obtain ⟨c0, c1, c2, c3⟩ := (hc k hlt).below hb (hc k hlt).lt
      have HN : Hid (Pl.names (k + 1) S = Pl.names k S ++ Pl.one (S k 1)) := Pl.names_succ k S
      clear hc
      generalize Pl.names k S = N at *
      generalize S k 0 = s0 at *
      generalize S k 1 = s1 at *
      generalize S k 2 = s2 at *
      generalize S k 3 = s3 at *
      cases he : s1.toList.isEmpty
      · have HO : Hid (Pl.one s1 = [s1]) := Pl.one_no he
        go_wp2_with (at_builtin; refine wpList_append_own _ rfl (.tmp 16) (.tmp 19) 25 rfl w.heap.size 9 i0 (.string ByteArray.empty) 1 16 Try.underlying25 hi hz0 hz1 hz2 rfl (by decide) _ _ _ rfl ((hown.out.alloc _).alloc _) ⟨wr.heap.size + 1, 0, none⟩ 1 1 [.string s1] rfl rfl ?c1 ?c2 ?c3 ?c4 ?c5 ?_)
        case c1 =>
          intro j u hj
          match j, hj with
          | 0, hj => cases hj; simp [Addr.add]
          | j + 1, hj => simp at hj
        case c2 => intro u hu; simp at hu; subst hu; rfl
        case c3 => unfold maxLen; omega
        case c4 => omega
        case c5 => simp; omega
        · intro v' w1 hown' hgrow _
          have hB1 := Below.owned_append hb hown.out hsz hgrow
          have hown1 : Hid (w1.ownsRow w.heap.size 9 1 v' (Pl.names (k + 1) S).length ((Pl.names (k + 1) S).map .string)) := by
            rw [HN.out, HO.out]
            show World.ownsRow _ _ _ _ _ _ _
            simpa using hown'
          clear hown' hgrow hown hb c0 c1 c2 c3
          go_wp2
          go_roundw
          case rel => exact ⟨k + 1, by omega, by go_num, hown1, hB1⟩
          case measure => simp [intOf]; omega
      · have HO : Hid (Pl.one s1 = []) := Pl.one_yes he
        have hown1 : Hid ((wr.alloc (.cells #[.string s0, .string s1, .string s2, .string s3] 37)).ownsRow w.heap.size 9 1 u3 (Pl.names (k + 1) S).length ((Pl.names (k + 1) S).map .string)) := by
          rw [HN.out, HO.out, List.append_nil]
          exact hown.out.alloc _
        have hB1 : Below w.heap.size w (wr.alloc (.cells #[.string s0, .string s1, .string s2, .string s3] 37)) := hb.alloc hsz _
        go_wp2
        go_roundw
        case rel => exact ⟨k + 1, by omega, by go_num, hown1, hB1⟩
        case measure => simp [intOf]; omega
    · obtain rfl : k = n := by omega
      go_wp2
      go_ret
      obtain ⟨a', c', hv, hr⟩ := strRow_of_owns hown.out
      exact ⟨a', c', by rw [← hv]; rfl, hr, hb⟩

end Go.Proofs.Qxb6628663a
