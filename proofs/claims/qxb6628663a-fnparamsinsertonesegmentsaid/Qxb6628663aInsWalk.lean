/-
  THE WALK of 'FnParamsInsertOneSegment' (function 4).
-/
import Derived.Test.Qxb6628663aSplitWalk
namespace Go.Proofs.Qxb6628663a
open Go.RowKit

theorem Try.info32 : (Try.prog.info? 32).map (fun i => (i.zero, i.size, i.bytes)) = some (some (.agg #[.string ByteArray.empty, .string ByteArray.empty, .string ByteArray.empty, .string ByteArray.empty]), 4, 64) := by kernel_rfl

/-- A segment's four cells. -/
def four (s : Nat → ByteArray) : List Value := [.string (s 0), .string (s 1), .string (s 2), .string (s 3)]
/-- The cells of n segments. -/
def flat (n : Nat) (S : Nat → Nat → ByteArray) : List Value := (List.range n).flatMap fun i => four (S i)
theorem flat_zero (S : Nat → Nat → ByteArray) : flat 0 S = [] := rfl
theorem flat_succ (k : Nat) (S : Nat → Nat → ByteArray) : flat (k + 1) S = flat k S ++ four (S k) := by simp [flat, List.range_succ]
theorem flat_length (n : Nat) (S : Nat → Nat → ByteArray) : (flat n S).length = n * 4 := by
  induction n with
  | zero => rfl
  | succ k ih => rw [flat_succ, List.length_append, ih]; simp [four]; omega
theorem flat_get {n : Nat} {S : Nat → Nat → ByteArray} {i : Nat} (hi : i < n) (f : Nat) (hf : f < 4) : (flat n S)[i * 4 + f]? = (four (S i))[f]? := by
  induction n with
  | zero => omega
  | succ k ih =>
    rw [flat_succ]
    by_cases e : i = k
    · subst e
      rw [List.getElem?_append_right (by rw [flat_length]; omega), flat_length]
      congr 1
      omega
    · rw [List.getElem?_append_left (by rw [flat_length]; omega)]
      exact ih (by omega)
theorem four_one (s : Nat → ByteArray) : ∀ u ∈ four s, u.oneCell' = true := by
  intro u hu
  simp [four] at hu
  rcases hu with rfl | rfl | rfl | rfl <;> rfl

/-- What is owned, as a row of segments. -/
theorem segRow_of_owns {w : World} {base g n cap : Nat} {S : Nat → Nat → ByteArray} (h : w.ownsRow base 32 4 (.slice (some ⟨g, 0, none⟩) n cap) n (flat n S)) : SegRow w (some ⟨g, 0, none⟩) n S := by
  refine .inr ⟨g, 0, rfl, fun i hi => ?_⟩
  rw [Nat.zero_add]
  refine ⟨?_, ?_, ?_, ?_⟩
  · rw [h.cellAt (i * 4) (by omega)]; exact flat_get hi 0 (by omega)
  · rw [h.cellAt (i * 4 + 1) (by omega)]; exact flat_get hi 1 (by omega)
  · rw [h.cellAt (i * 4 + 2) (by omega)]; exact flat_get hi 2 (by omega)
  · rw [h.cellAt (i * 4 + 3) (by omega)]; exact flat_get hi 3 (by omega)

/-- The four cells of a new block. -/
theorem four_new (w : World) (s : Nat → ByteArray) : ∀ j u, (four s)[j]? = some u → (w.alloc (.cells #[.string (s 0), .string (s 1), .string (s 2), .string (s 3)] 32)).cell? ((⟨w.heap.size, 0, none⟩ : Addr).add j) = some u := by
  intro j u hj
  match j, hj with
  | 0, hj => cases hj; simp [Addr.add]
  | 1, hj => cases hj; simp [Addr.add]
  | 2, hj => cases hj; simp [Addr.add]
  | 3, hj => cases hj; simp [Addr.add]
  | j + 4, hj => simp [four] at hj

/-- One name put in: what stands where. -/
theorem ins_left (L R : List ByteArray) (x d : ByteArray) (i : Nat) (hi : i < L.length) : (L ++ ([x] ++ R)).getD i d = (L ++ R).getD i d := by
  rw [Pl.getD_left _ _ _ _ hi, Pl.getD_left _ _ _ _ hi]
theorem ins_mid (L R : List ByteArray) (x d : ByteArray) : (L ++ ([x] ++ R)).getD L.length d = x := by
  have := Pl.getD_right L ([x] ++ R) d 0
  rw [Nat.add_zero] at this
  rw [this]; rfl
theorem ins_right (L R : List ByteArray) (x d : ByteArray) (i : Nat) (hi : L.length ≤ i) : (L ++ ([x] ++ R)).getD (i + 1) d = (L ++ R).getD i d := by
  obtain ⟨e, rfl⟩ : ∃ e, i = L.length + e := ⟨i - L.length, by omega⟩
  rw [Nat.add_assoc, Pl.getD_right, Pl.getD_right, Nat.add_comm e 1]
  exact Pl.getD_right [x] R d e

/-- Where the two lists of names lie, and the boxed segment. -/
structure Sit2 (w wr : World) (aA aB : Option Addr) (A B : List ByteArray) (T : Nat → ByteArray) : Prop where
  below : Below w.heap.size w wr
  hA : StrRow wr aA A.length A
  hB : StrRow wr aB B.length B
  hT : SegAt wr w.heap.size 0 T
theorem Sit2.drewN {w wr : World} {aA aB : Option Addr} {A B : List ByteArray} {T : Nat → ByteArray} (h : Sit2 w wr aA aB A B T) (q : Nat) : Sit2 w (wr.drewN q) aA aB A B T :=
  ⟨h.below.trans (below_drewN' _ _ _), h.hA, h.hB, h.hT⟩

theorem Below.append_own {w3 wr w' : World} {A : Obj} (hb : Below w3.heap.size w3 wr) (hg : (wr.alloc A).grownBy w' (some w3.heap.size)) : Below w3.heap.size w3 w' :=
  (hb.alloc hb.size _).grown hg (by have := hb.size; simp; omega) (fun k e => by cases e; exact Nat.le_refl _)

theorem owns_step {w' : World} {B g cap j : Nat} {G : Nat → Nat → ByteArray} {s : Nat → ByteArray} (hs : G j = s) (h : w'.ownsRow B 32 4 (.slice (some ⟨g, 0, none⟩) (j + 1) cap) (j + 1) (flat j G ++ four s)) :
    w'.ownsRow B 32 4 (.slice (some ⟨g, 0, none⟩) (j + 1) cap) (j + 1) (flat (j + 1) G) := by
  rw [flat_succ, hs]; exact h

set_option maxRecDepth 100000 in
set_option maxHeartbeats 4000000 in
theorem f4_walk (a : Option Addr) (n c : Nat) (S : Nat → Nat → ByteArray) (k : Int) (T : Nat → ByteArray) (w : World) (hn : n ≤ 9223372036854775807) (hcap : n ≤ c) (ha : SegRow w a n S) (hnil : a = none → n = 0 ∧ c = 0) :
    Calls Try.prog 4 #[.slice a n c, .int .i64 k, .agg #[.string (T 0), .string (T 1), .string (T 2), .string (T 3)]] w (LawOut w) := by
  obtain ⟨i0, hi, hz0, hz1, hz2⟩ := info_parts Try.info32
  have hB0 : Below w.heap.size w (w.alloc (.cells #[.string (T 0), .string (T 1), .string (T 2), .string (T 3)] 32)) := (Below.refl _ _).alloc (Nat.le_refl _) _
  have hT : SegAt (w.alloc (.cells #[.string (T 0), .string (T 1), .string (T 2), .string (T 3)] 32)) w.heap.size 0 T := ⟨by simp, by simp, by simp, by simp⟩
  go_enter Try.func4, Try.ntmps4
  go_wp2_with fail
  have ha := ha.below hB0 (Nat.le_refl _)
  generalize w.alloc (.cells #[.string (T 0), .string (T 1), .string (T 2), .string (T 3)] 32) = w0 at *
  refine (f10_any a n c S k (T 0) (T 1) (T 2) (T 3) _ hn ha).mono ?_
  rintro e w1 ⟨b, rfl, hb, hb1⟩
  have hB1 := hB0.trans (hb1.mono hB0.size)
  have ha := ha.below hb1 (Nat.le_refl _)
  have hT := hT.below hb1 hT.lt
  clear hB0 hb1
  cases b
  · go_wp2
    go_ret
    exact ⟨rfl, hB1⟩
  have hn1 := hb rfl
  clear hb hn
  go_wp2_with fail
  refine (f6_any a n c S 0 _ (by omega) ha).mono ?_
  rintro e w2 ⟨r, rfl, hb2⟩
  have hB2 := hB1.trans (hb2.mono hB1.size)
  have ha := ha.below hb2 (Nat.le_refl _)
  have hT := hT.below hb2 hT.lt
  clear hb2 hB1
  by_cases hr : r < 0
  · go_wp2
    go_ret
    exact ⟨rfl, hB2⟩
  obtain ⟨t0, t1, t2, t3⟩ := hT
  go_wp2_with fail
  refine (f11_any (T 0) (T 1) (T 2) (T 3) r _).mono ?_
  rintro e w3 ⟨r', rfl, hb3⟩
  have hB3 := hB2.trans (hb3.mono hB2.size)
  have ha := ha.below hb3 (Nat.le_refl _)
  have hT : SegAt w2 w.heap.size 0 T := ⟨t0, t1, t2, t3⟩
  have hT := hT.below hb3 hT.lt
  clear hb3 hB2 t0 t1 t2 t3
  by_cases hr' : r' < 0
  · go_wp2
    go_ret
    exact ⟨rfl, hB3⟩
  by_cases hk0 : k < 0
  · go_wp2
    go_ret
    exact ⟨rfl, hB3⟩
  by_cases hk1 : (n : Int) < k
  · go_wp2
    go_ret
    exact ⟨rfl, hB3⟩
  obtain ⟨m, rfl⟩ : ∃ m : Nat, k = m := ⟨k.toNat, by omega⟩
  have hmn : m ≤ n := by omega
  have hd1 : decide (n < m) = false := decide_eq_false (by omega)
  have hd2 : decide ((m : Int) < 0) = false := decide_eq_false (by omega)
  have hd3 : decide ((n : Int) < (m : Int)) = false := decide_eq_false (by omega)
  clear hk1
  obtain ⟨w4, r4, o4, g4⟩ := run_make_own (P := Try.prog) w3 w3.heap.size 22 32 i0 _ 4 Try.underlying22 hi hz0 hz1 .i64 .i64 (n + 1) (by rw [hz2]; omega) (by unfold maxLen; omega) (Nat.le_refl _)
  rw [show ((n + 1 : Nat) : Int) = (n : Int) + 1 from by omega] at r4
  have hB4 : Below w3.heap.size w3 w4 := (Below.refl _ _).grown g4 (Nat.le_refl _) (fun k e => by cases e)
  have hO4 : Hid (w4.ownsRow w3.heap.size 32 4 (.slice (some ⟨w3.heap.size, 0, none⟩) 0 (n + 1)) 0 (flat 0 (Pl.ins S m T))) := o4
  clear g4 o4
  go_wp2
  clear r4
  -- the part before k
  go_loopw [8, 9] (fun v i wr => ∃ j : Nat, j ≤ m ∧ i = .int .i64 j ∧ v = .slice (some ⟨w3.heap.size, 0, none⟩) j (n + 1) ∧ Hid (wr.ownsRow w3.heap.size 32 4 (.slice (some ⟨w3.heap.size, 0, none⟩) j (n + 1)) j (flat j (Pl.ins S m T))) ∧ Below w3.heap.size w3 wr)
    (fun _ i _ => m - (intOf i).toNat)
  case atStart => exact ⟨0, Nat.zero_le _, rfl, rfl, hO4, hB4⟩
  case round =>
    clear hO4 hB4
    obtain ⟨j, hj, rfl, rfl, hO, hb⟩ := hrel
    have hsz := hb.size
    by_cases hlt : j < m
    · have hax := ha
      rcases hax with h0 | ⟨b, off, rfl, hc⟩
      · omega
      obtain ⟨c0, c1, c2, c3⟩ := (hc j (by omega)).below hb (hc j (by omega)).lt
      clear hc
      go_wp2_with (at_builtin; refine wpList_append_fits _ rfl (.tmp 46) (.tmp 51) 22 rfl w3.heap.size 32 i0 4 Try.underlying22 hi hz1 w3.heap.size j (n + 1) (flat j (Pl.ins S m T)) rfl (hO.out.alloc _) ⟨wr.heap.size, 0, none⟩ 1 1 (four (S j)) rfl rfl (four_new wr (S j)) (four_one (S j)) (by omega) ?_)
      intro w5 hO5 hg5
      have hB5 := Below.append_own hb hg5
      have HO5 : Hid (w5.ownsRow w3.heap.size 32 4 (.slice (some ⟨w3.heap.size, 0, none⟩) (j + 1) (n + 1)) (j + 1) (flat (j + 1) (Pl.ins S m T))) := owns_step (Pl.ins_lt hlt) hO5
      clear hO5 hg5 hO hb c0 c1 c2 c3
      go_wp2
      go_roundw
      case rel => exact ⟨j + 1, by omega, by go_num, rfl, HO5, hB5⟩
      case measure => simp [intOf]; omega
    · obtain rfl : j = m := by omega
      obtain ⟨c0, c1, c2, c3⟩ := hT.below hb hT.lt
      go_wp2_with (at_builtin; refine wpList_append_fits _ rfl (.tmp 53) (.tmp 55) 22 rfl w3.heap.size 32 i0 4 Try.underlying22 hi hz1 w3.heap.size j (n + 1) (flat j (Pl.ins S j T)) rfl (hO.out.alloc _) ⟨wr.heap.size, 0, none⟩ 1 1 (four T) rfl rfl (four_new wr T) (four_one T) (by omega) ?_)
      intro w5 hO5 hg5
      have hB5 := Below.append_own hb hg5
      have HO5 : Hid (w5.ownsRow w3.heap.size 32 4 (.slice (some ⟨w3.heap.size, 0, none⟩) (j + 1) (n + 1)) (j + 1) (flat (j + 1) (Pl.ins S j T))) := owns_step Pl.ins_at hO5
      clear hO5 hg5 hO hb c0 c1 c2 c3 hsz hlt hj
      go_wp2
      -- the part from k on
      go_loopw [8, 10] (fun v i wr => ∃ t : Nat, j ≤ t ∧ t ≤ n ∧ i = .int .i64 t ∧ v = .slice (some ⟨w3.heap.size, 0, none⟩) (t + 1) (n + 1) ∧ Hid (wr.ownsRow w3.heap.size 32 4 (.slice (some ⟨w3.heap.size, 0, none⟩) (t + 1) (n + 1)) (t + 1) (flat (t + 1) (Pl.ins S j T))) ∧ Below w3.heap.size w3 wr)
        (fun _ i _ => n - (intOf i).toNat)
      case atStart => exact ⟨j, Nat.le_refl _, hmn, rfl, rfl, HO5, hB5⟩
      case round =>
        clear HO5 hB5
        obtain ⟨t, hjt, htn, rfl, rfl, hO, hb⟩ := hrel
        have hsz := hb.size
        by_cases hlt : t < n
        · have hax := ha
          rcases hax with h0 | ⟨b, off, rfl, hc⟩
          · omega
          obtain ⟨c0, c1, c2, c3⟩ := (hc t (by omega)).below hb (hc t (by omega)).lt
          clear hc
          go_wp2_with (at_builtin; refine wpList_append_fits _ rfl (.tmp 64) (.tmp 69) 22 rfl w3.heap.size 32 i0 4 Try.underlying22 hi hz1 w3.heap.size (t + 1) (n + 1) (flat (t + 1) (Pl.ins S j T)) rfl (hO.out.alloc _) ⟨wr.heap.size, 0, none⟩ 1 1 (four (S t)) rfl rfl (four_new wr (S t)) (four_one (S t)) (by omega) ?_)
          intro w6 hO6 hg6
          have hB6 := Below.append_own hb hg6
          have HO6 : Hid (w6.ownsRow w3.heap.size 32 4 (.slice (some ⟨w3.heap.size, 0, none⟩) (t + 1 + 1) (n + 1)) (t + 1 + 1) (flat (t + 1 + 1) (Pl.ins S j T))) := owns_step (Pl.ins_gt hjt) hO6
          clear hO6 hg6 hO hb c0 c1 c2 c3
          go_wp2
          go_roundw
          case rel => exact ⟨t + 1, by omega, by omega, by go_num, rfl, HO6, hB6⟩
          case measure => simp [intOf]; omega
        · obtain rfl : n = t := by omega
          have hG := segRow_of_owns hO.out
          have hA := ha.below hb (Nat.le_refl _)
          have hT6 := hT.below hb hT.lt
          have hB6 := hB3.trans (hb.mono hB3.size)
          clear hO hb hsz hlt ha hT hB3
          -- the names before
          go_wp2_with fail
          refine (f7_any a n c S _ (by omega) hA hnil).mono ?_
          rintro e w7 ⟨p7, c7, rfl, hp7, hb7⟩
          have hB7 := hB6.trans (hb7.mono hB6.size)
          have hG := hG.below hb7 (Nat.le_refl _)
          have hA := hA.below hb7 (Nat.le_refl _)
          have hT7 := hT6.below hb7 hT6.lt
          clear hb7 hB6 hT6
          go_wp2_with fail
          refine (f8_any p7 n c7 S _ (by omega) hp7).mono ?_
          rintro e w8 ⟨aB, cB, rfl, hrB, hb8⟩
          have hB8 := hB7.trans (hb8.mono hB7.size)
          have hG := hG.below hb8 (Nat.le_refl _)
          have hA := hA.below hb8 (Nat.le_refl _)
          have hT8 := hT7.below hb8 hT7.lt
          clear hb8 hB7 hT7 hp7
          -- the names after
          go_wp2_with fail
          refine (f7_any _ (n + 1) (n + 1) (Pl.ins S j T) _ (by omega) hG (fun h => by cases h)).mono ?_
          rintro e w9 ⟨p9, c9, rfl, hp9, hb9⟩
          have hB9 := hB8.trans (hb9.mono hB8.size)
          have hA := hA.below hb9 (Nat.le_refl _)
          have hT9 := hT8.below hb9 hT8.lt
          have hrB := hrB.below hb9 (Nat.le_refl _)
          clear hb9 hB8 hT8 hG
          go_wp2_with fail
          refine (f8_any p9 (n + 1) c9 (Pl.ins S j T) _ (by omega) hp9).mono ?_
          rintro e w10 ⟨aA, cA, rfl, hrA, hb10⟩
          have hBel := hB9.trans (hb10.mono hB9.size)
          have hA := hA.below hb10 (Nat.le_refl _)
          have hT10 := hT9.below hb10 hT9.lt
          have hrB := hrB.below hb10 (Nat.le_refl _)
          clear hb10 hB9 hT9 hp9
          have hBle := Pl.names_le n S
          have hAle := Pl.names_le (n + 1) (Pl.ins S j T)
          have EA : Hid (Pl.names (n + 1) (Pl.ins S j T) = Pl.names j S ++ (Pl.one (T 1) ++ Pl.names (n - j) (fun i => S (j + i)))) := Pl.names_ins hmn S T
          have EB : Hid (Pl.names n S = Pl.names j S ++ Pl.names (n - j) (fun i => S (j + i))) := by
            show _ = _
            have := Pl.names_cut j (n - j) S
            rwa [show j + (n - j) = n by omega] at this
          have hJ : SegRow w10 a j S := hA.front j hmn
          clear hA
          have tc := hT10.2.1
          rw [Nat.zero_add] at tc
          generalize Pl.names (n + 1) (Pl.ins S j T) = A at *
          generalize Pl.names n S = B at *
          generalize Pl.names (n - j) (fun i => S (j + i)) = R at *
          cases he : (T 1).toList.isEmpty
          · have EA : Hid (A = Pl.names j S ++ ([T 1] ++ R)) := by show _ = _; rw [EA.out, Pl.one_no he]
            have hLle := Pl.names_le j S
            go_wp2_with fail
            refine (f9_any a j c S _ (by omega) hJ).mono ?_
            rintro e w' ⟨rfl, rfl⟩
            generalize Pl.names j S = L at *
            have hlA : A.length = L.length + (1 + R.length) := by rw [EA.out]; simp; omega
            have hlB : B.length = L.length + R.length := by rw [EB.out]; simp
            have gL : Hid (∀ i, i < L.length → A.getD i ByteArray.empty = B.getD i ByteArray.empty) := fun i hi => by rw [EA.out, EB.out]; exact ins_left _ _ _ _ _ hi
            have gM : Hid (A.getD L.length ByteArray.empty = T 1) := by show _ = _; rw [EA.out]; exact ins_mid _ _ _ _
            have gR : Hid (∀ i, L.length ≤ i → A.getD (i + 1) ByteArray.empty = B.getD i ByteArray.empty) := fun i hi => by rw [EA.out, EB.out]; exact ins_right _ _ _ _ _ hi
            have q1 : ((A.length : Int) != (B.length : Int) + 1) = false := by rw [bne_eq_false_iff_eq]; omega
            have hLB : L.length ≤ B.length := by omega
            have hBA : B.length + 1 ≤ A.length := by omega
            have hd4 : decide (B.length < L.length) = false := decide_eq_false (by omega)
            have hd5 : decide ((B.length : Int) < (L.length : Int)) = false := decide_eq_false (by omega)
            have hs := Sit2.mk hBel hrA hrB hT10
            clear hlA hlB EA EB hBel hrA hrB hT10 hJ tc
            go_wp2
            go_loopw [14] (fun i wr => ∃ t : Nat, t ≤ L.length ∧ i = .int .i64 t ∧ Sit2 w wr aA aB A B T) (fun i _ => L.length - (intOf i).toNat)
            case atStart => exact ⟨0, Nat.zero_le _, rfl, hs⟩
            case round =>
              clear hs
              obtain ⟨t, ht, rfl, hs⟩ := hrel
              by_cases hlt3 : t < L.length
              · have hq := gL.out t hlt3
                have hAx := hs.hA
                have hBx := hs.hB
                rcases hAx with h0 | ⟨bA, oA, rfl, hcA⟩
                · omega
                rcases hBx with h0 | ⟨bB, oB, rfl, hcB⟩
                · omega
                have cA1 := hcA t (by omega)
                have cB1 := hcB t (by omega)
                rw [hq] at cA1
                have l1 : (t : Int) < A.length := by omega
                have l2 : (t : Int) < B.length := by omega
                clear hcA hcB hq
                generalize B.getD t ByteArray.empty = x at *
                go_wp2
                go_quiet (fail)
                go_wp2
                go_roundw
                case rel => exact ⟨t + 1, by omega, by go_num, hs.drewN _⟩
                case measure => simp [intOf]; omega
              · have hAx := hs.hA
                rcases hAx with h0 | ⟨bA, oA, rfl, hcA⟩
                · omega
                have cA1 := hcA L.length (by omega)
                rw [gM.out] at cA1
                have tc := hs.hT.2.1
                rw [Nat.zero_add] at tc
                have l0 : (0 : Int) ≤ L.length := by omega
                have l1 : (L.length : Int) < A.length := by omega
                clear hcA
                go_wp2
                go_quiet (fail)
                have hs := hs.drewN nq
                clear tc cA1
                go_wp2
                go_loopw [15] (fun i wr => ∃ t : Nat, L.length ≤ t ∧ t ≤ B.length ∧ i = .int .i64 t ∧ Sit2 w wr (some ⟨bA, oA, none⟩) aB A B T) (fun i _ => B.length - (intOf i).toNat)
                case atStart => exact ⟨L.length, Nat.le_refl _, hLB, rfl, hs⟩
                case round =>
                  clear hs
                  obtain ⟨t4, ht4, ht4', rfl, hs⟩ := hrel
                  by_cases hlt4 : t4 < B.length
                  · have hq := gR.out t4 ht4
                    have hAx := hs.hA
                    have hBx := hs.hB
                    rcases hAx with h0 | ⟨bA', oA', eA, hcA⟩
                    · omega
                    rcases hBx with h0 | ⟨bB, oB, rfl, hcB⟩
                    · omega
                    cases eA
                    have cA1 := hcA (t4 + 1) (by omega)
                    have cB1 := hcB t4 hlt4
                    rw [hq] at cA1
                    have l2 : (t4 : Int) + 1 < A.length := by omega
                    have l3 : (t4 : Int) < B.length := by omega
                    have l4 : (0 : Int) ≤ (t4 : Int) + 1 := by omega
                    clear hcA hcB hq
                    generalize B.getD t4 ByteArray.empty = x at *
                    go_wp2
                    go_quiet (fail)
                    go_wp2
                    go_roundw
                    case rel => exact ⟨t4 + 1, by omega, by omega, by go_num, hs.drewN _⟩
                    case measure => simp [intOf]; omega
                  · go_wp2
                    go_ret
                    exact ⟨rfl, hs.below⟩
          · have hAB : A = B := by rw [EA.out, EB.out, Pl.one_yes he]; rfl
            subst hAB
            go_wp2_with fail
            refine (f12_same aA A.length cA aB cB A _ (by omega) hrA hrB).mono ?_
            rintro e w11 ⟨rfl, q, rfl⟩
            have hBf := hBel.trans (below_drewN' w.heap.size w10 q)
            go_wp2
            go_ret
            exact ⟨rfl, hBf⟩

end Go.Proofs.Qxb6628663a
