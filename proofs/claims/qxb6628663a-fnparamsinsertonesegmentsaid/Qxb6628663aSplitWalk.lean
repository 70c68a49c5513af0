/-
  THE WALK of 'FnParamsSplitAroundAnySegment' (function 3).
-/
import Derived.Test.Qxb6628663aPattern
namespace Go.Proofs.Qxb6628663a
open Go.RowKit

/-- The law's end: true; nothing that was there has turned. -/
def LawOut (w : World) (e : Ending) (w' : World) : Prop := e = .returned (.bool true) ∧ Below w.heap.size w w'

theorem below_drewN' (B : Nat) (w : World) (q : Nat) : Below B w (w.drewN q) := ⟨rfl, rfl, rfl, Nat.le_refl _, fun _ _ => rfl⟩

theorem SegRow.part {w : World} {b off n : Nat} {S : Nat → Nat → ByteArray} (h : SegRow w (some ⟨b, off, none⟩) n S) (k m : Nat) (hk : k + m ≤ n) : SegRow w (some ⟨b, off + k * 4, none⟩) m (fun i => S (k + i)) := by
  rcases h with h | ⟨b', o, e, hc⟩
  · exact .inl (by omega)
  · simp only [Option.some.injEq, Addr.mk.injEq] at e
    obtain ⟨rfl, rfl, _⟩ := e
    refine .inr ⟨b, off + k * 4, rfl, fun i hi => ?_⟩
    have := hc (k + i) (by omega)
    rwa [show off + (k + i) * 4 = off + k * 4 + i * 4 by omega] at this
theorem SegRow.front {w : World} {a : Option Addr} {n : Nat} {S : Nat → Nat → ByteArray} (h : SegRow w a n S) (k : Nat) (hk : k ≤ n) : SegRow w a k S := by
  rcases h with h | ⟨b, o, e, hc⟩
  · exact .inl (by omega)
  · exact .inr ⟨b, o, e, fun i hi => hc i (by omega)⟩

/-- Where the four lists of names lie. -/
structure Sit (w wr : World) (aW aL aM aR : Option Addr) (W L M R : List ByteArray) : Prop where
  below : Below w.heap.size w wr
  hW : StrRow wr aW W.length W
  hL : StrRow wr aL L.length L
  hM : StrRow wr aM M.length M
  hR : StrRow wr aR R.length R
theorem Sit.drewN {w wr : World} {aW aL aM aR : Option Addr} {W L M R : List ByteArray} (h : Sit w wr aW aL aM aR W L M R) (q : Nat) : Sit w (wr.drewN q) aW aL aM aR W L M R :=
  ⟨h.below.trans (below_drewN' _ _ _), h.hW, h.hL, h.hM, h.hR⟩

set_option maxRecDepth 100000 in
set_option maxHeartbeats 2000000 in
theorem f3_walk (a : Option Addr) (n c : Nat) (S : Nat → Nat → ByteArray) (k : Int) (w : World) (hn : n ≤ 9223372036854775807) (hcap : n ≤ c) (ha : SegRow w a n S) :
    Calls Try.prog 3 #[.slice a n c, .int .i64 k] w (LawOut w) := by
  go_enter Try.func3, Try.ntmps3
  go_wp2_with fail
  refine (f5_any a n c S k _ hn ha).mono ?_
  rintro e w1 ⟨b, rfl, hb, hB1⟩
  cases b
  · go_wp2
    go_ret
    exact ⟨rfl, hB1⟩
  have hn1 := hb rfl
  clear hb hn
  have ha1 := ha.below hB1 (Nat.le_refl _)
  go_wp2_with fail
  refine (f6_any a n c S 0 _ (by omega) ha1).mono ?_
  rintro e w2 ⟨r, rfl, hb2⟩
  have hB2 := hB1.trans (hb2.mono hB1.size)
  clear hb2 ha1 hB1
  by_cases hr : r < 0
  · go_wp2
    go_ret
    exact ⟨rfl, hB2⟩
  by_cases hk0 : k < 0
  · go_wp2
    go_ret
    exact ⟨rfl, hB2⟩
  by_cases hk1 : (n : Int) ≤ k
  · go_wp2
    go_ret
    exact ⟨rfl, hB2⟩
  obtain ⟨m, rfl⟩ : ∃ m : Nat, k = m := ⟨k.toNat, by omega⟩
  have hmn : m < n := by omega
  rcases ha with ha0 | ⟨b, off, rfl, hca⟩
  · omega
  have ha : SegRow w (some ⟨b, off, none⟩) n S := .inr ⟨b, off, rfl, hca⟩
  have hseg := hca m hmn
  clear hca hk1
  -- the whole
  go_wp2_with fail
  refine (f7_any _ n c S _ (by omega) (ha.below hB2 (Nat.le_refl _)) (fun h => by cases h)).mono ?_
  rintro e w3 ⟨p3, c3, rfl, hp3, hb3⟩
  have hB3 := hB2.trans (hb3.mono hB2.size)
  clear hb3 hB2
  go_wp2_with fail
  refine (f8_any p3 n c3 S _ (by omega) hp3).mono ?_
  rintro e w4 ⟨aW, cW, rfl, hW4, hb4⟩
  have hB4 := hB3.trans (hb4.mono hB3.size)
  clear hb4 hB3 hp3
  have hWle := Pl.names_le n S
  generalize eW : Pl.names n S = W at *
  have EW : Hid (Pl.names n S = W) := eW
  clear eW
  -- the left part
  go_wp2_with fail
  refine (f7_any _ m c S _ (by omega) ((ha.front m (by omega)).below hB4 (Nat.le_refl _)) (fun h => by cases h)).mono ?_
  rintro e w5 ⟨p5, c5, rfl, hp5, hb5⟩
  have hB5 := hB4.trans (hb5.mono hB4.size)
  have hW5 := hW4.below hb5 (Nat.le_refl _)
  clear hb5 hB4 hW4
  go_wp2_with fail
  refine (f8_any p5 m c5 S _ (by omega) hp5).mono ?_
  rintro e w6 ⟨aL, cL, rfl, hL6, hb6⟩
  have hB6 := hB5.trans (hb6.mono hB5.size)
  have hW6 := hW5.below hb6 (Nat.le_refl _)
  clear hb6 hB5 hW5 hp5
  have hLle := Pl.names_le m S
  generalize eL : Pl.names m S = L at *
  have EL : Hid (Pl.names m S = L) := eL
  clear eL
  -- the segment in the middle
  have hne : ¬ c = m := by omega
  go_wp2_with fail
  have hmid : SegRow w6 (some ⟨b, off + m * 4, none⟩) 1 (fun i => S (m + i)) := (ha.part m 1 (by omega)).below hB6 (Nat.le_refl _)
  refine (f7_any _ 1 (c - m) (fun i => S (m + i)) _ (by omega) hmid (fun h => by cases h)).mono ?_
  rintro e w7 ⟨p7, c7, rfl, hp7, hb7⟩
  have hB7 := hB6.trans (hb7.mono hB6.size)
  have hW7 := hW6.below hb7 (Nat.le_refl _)
  have hL7 := hL6.below hb7 (Nat.le_refl _)
  clear hb7 hB6 hW6 hL6 hmid
  go_wp2_with fail
  refine (f8_any p7 1 c7 (fun i => S (m + i)) _ (by omega) hp7).mono ?_
  rintro e w8 ⟨aM, cM, rfl, hM8, hb8⟩
  have hB8 := hB7.trans (hb8.mono hB7.size)
  have hW8 := hW7.below hb8 (Nat.le_refl _)
  have hL8 := hL7.below hb8 (Nat.le_refl _)
  clear hb8 hB7 hW7 hL7 hp7
  have hMle := Pl.names_le 1 (fun i => S (m + i))
  generalize eM : Pl.names 1 (fun i => S (m + i)) = M at *
  have EM : Hid (M = Pl.one (S m 1)) := by
    show _ = _
    rw [← eM, Pl.names_one]; rfl
  clear eM
  -- the right part
  have hR8 : ¬ c = m + 1 → SegRow w8 (some ⟨b, off + (m + 1) * 4, none⟩) (n - (m + 1)) (fun i => S (m + 1 + i)) := fun _ => (ha.part (m + 1) (n - (m + 1)) (by omega)).below hB8 (Nat.le_refl _)
  have HR8 : Hid (¬ c = m + 1 → SegRow w8 (some ⟨b, off + (m + 1) * 4, none⟩) (n - (m + 1)) (fun i => S (m + 1 + i))) := hR8
  clear hR8
  by_cases hright : c = m + 1
  case' pos =>
    go_wp2_with fail
    refine (f7_any _ (n - (m + 1)) 0 (fun i => S (m + 1 + i)) _ (by omega) (.inl (by omega)) (fun h => by cases h)).mono ?_
  case' neg =>
    go_wp2_with fail
    refine (f7_any _ (n - (m + 1)) (c - (m + 1)) (fun i => S (m + 1 + i)) _ (by omega) (HR8.out hright) (fun h => by cases h)).mono ?_
  all_goals
    clear hright
    rintro e w9 ⟨p9, c9, rfl, hp9, hb9⟩
    have hB9 := hB8.trans (hb9.mono hB8.size)
    have hW9 := hW8.below hb9 (Nat.le_refl _)
    have hL9 := hL8.below hb9 (Nat.le_refl _)
    have hM9 := hM8.below hb9 (Nat.le_refl _)
    clear hb9 hB8 hW8 hL8 hM8 HR8
    go_wp2_with fail
    refine (f8_any p9 (n - (m + 1)) c9 (fun i => S (m + 1 + i)) _ (by omega) hp9).mono ?_
    rintro e w10 ⟨aR, cR, rfl, hR, hb10⟩
    have hB := hB9.trans (hb10.mono hB9.size)
    have hW := hW9.below hb10 (Nat.le_refl _)
    have hL := hL9.below hb10 (Nat.le_refl _)
    have hM := hM9.below hb10 (Nat.le_refl _)
    clear hb10 hB9 hW9 hL9 hM9 hp9
    have hRle := Pl.names_le (n - (m + 1)) (fun i => S (m + 1 + i))
    have ER : Hid (W = L ++ (M ++ Pl.names (n - (m + 1)) (fun i => S (m + 1 + i)))) := by
      show _ = _
      rw [← EW.out, ← EL.out, EM.out]
      exact Pl.names_around hmn S
    generalize Pl.names (n - (m + 1)) (fun i => S (m + 1 + i)) = R at *
    have hlen : W.length = L.length + (M.length + R.length) := by rw [ER.out]; simp
    have gW : ∀ i, i < L.length → W.getD i ByteArray.empty = L.getD i ByteArray.empty := fun i hi => by
      rw [ER.out]; exact Pl.getD_left _ _ _ _ hi
    have gM : ∀ i, i < M.length → W.getD (L.length + i) ByteArray.empty = M.getD i ByteArray.empty := fun i hi => by
      rw [ER.out, Pl.getD_right]; exact Pl.getD_left _ _ _ _ hi
    have gR : ∀ i, W.getD (L.length + M.length + i) ByteArray.empty = R.getD i ByteArray.empty := fun i => by
      rw [ER.out, Nat.add_assoc, Pl.getD_right, Pl.getD_right]
    have GW : Hid (∀ i, i < L.length → W.getD i ByteArray.empty = L.getD i ByteArray.empty) := gW
    have GM : Hid (∀ i, i < M.length → W.getD (L.length + i) ByteArray.empty = M.getD i ByteArray.empty) := gM
    have GR : Hid (∀ i, W.getD (L.length + M.length + i) ByteArray.empty = R.getD i ByteArray.empty) := gR
    have HW : Hid (W.length = (Pl.names n S).length) := by show _ = _; rw [EW.out]
    have qlen : ((W.length : Int) != (L.length : Int) + (M.length : Int) + (R.length : Int)) = false := by rw [bne_eq_false_iff_eq]; omega
    have cnt : ((W.length : Int) != ((Pl.names n S).length : Int)) = false := by rw [bne_eq_false_iff_eq, EW.out]
    have hle : L.length + M.length + R.length ≤ W.length := by omega
    clear gW gM gR hlen
    have haw : SegRow w10 (some ⟨b, off, none⟩) n S := ha.below hB (Nat.le_refl _)
    obtain ⟨_, cs1, _, _⟩ := hseg.below hB (hseg.lt)
    clear ha hseg ER EW EL HW
    cases he : (S m 1).toList.isEmpty
    case' true =>
      have qM : ((M.length : Int) != 0) = false := by rw [EM.out, Pl.one_yes he]; rfl
      go_wp2_with (go_at_call 9; refine (f9_any _ n _ S _ (by omega) haw).mono ?_; rintro e w' ⟨rfl, rfl⟩)
    case' false =>
      have hM1 : M = [S m 1] := EM.out.trans (Pl.one_no he)
      have qM : ((M.length : Int) != 1) = false := by rw [hM1]; rfl
      have lM : (0 : Int) < M.length := by rw [hM1]; simp
      have hMx := hM
      rcases hMx with h0 | ⟨bM, oM, rfl, hcM⟩
      · rw [hM1] at h0; cases h0
      have cM0 : w10.cell? ⟨bM, oM, none⟩ = some (.string (S m 1)) := by
        have := hcM 0 (by omega)
        rw [hM1] at this
        exact this
      have lmn : (m : Int) < n := by omega
      clear hcM hM1
      go_wp2
      go_quiet (fail)
      have haw : SegRow (w10.drewN nq) (some ⟨b, off, none⟩) n S := haw
      go_wp2_with (go_at_call 9; refine (f9_any _ n _ S _ (by omega) haw).mono ?_; rintro e w' ⟨rfl, rfl⟩)
    case' false => generalize (some (⟨bM, oM, none⟩ : Addr)) = aM at *
    all_goals
      have hsit := Sit.mk hB hW hL hM hR
      clear hB hW hL hM hR haw cs1
      go_loopw [9] (fun i wr => ∃ k : Nat, k ≤ L.length ∧ i = .int .i64 k ∧ Sit w wr aW aL aM aR W L M R) (fun i _ => L.length - (intOf i).toNat)
      case atStart => first | exact ⟨0, Nat.zero_le _, rfl, hsit⟩ | exact ⟨0, Nat.zero_le _, rfl, hsit.drewN _⟩
      case round =>
        clear hsit
        obtain ⟨k, hk, rfl, hs⟩ := hrel
        by_cases hlt : k < L.length
        · have hq := GW.out k hlt
          have hWx := hs.hW
          have hLx := hs.hL
          rcases hWx with h0 | ⟨bW, oW, rfl, hcW⟩
          · omega
          rcases hLx with h0 | ⟨bL, oL, rfl, hcL⟩
          · omega
          have cW1 := hcW k (by omega)
          have cL1 := hcL k hlt
          rw [hq] at cW1
          have l1 : (k : Int) < W.length := by omega
          have l2 : (k : Int) < L.length := by omega
          clear hcW hcL hq
          generalize L.getD k ByteArray.empty = x at *
          go_wp2
          go_quiet (fail)
          go_wp2
          go_roundw
          case rel => exact ⟨k + 1, by omega, by go_num, hs.drewN _⟩
          case measure => simp [intOf]; omega
        · go_wp2
          go_loopw [10] (fun i wr => ∃ k : Nat, k ≤ M.length ∧ i = .int .i64 k ∧ Sit w wr aW aL aM aR W L M R) (fun i _ => M.length - (intOf i).toNat)
          case atStart => exact ⟨0, Nat.zero_le _, rfl, hs⟩
          case round =>
            clear hs
            obtain ⟨k2, hk2, rfl, hs⟩ := hrel
            by_cases hlt2 : k2 < M.length
            · have hq := GM.out k2 hlt2
              have hWx := hs.hW
              have hMx := hs.hM
              rcases hWx with h0 | ⟨bW, oW, rfl, hcW⟩
              · omega
              rcases hMx with h0 | ⟨bL, oL, rfl, hcL⟩
              · omega
              have cW1 := hcW (L.length + k2) (by omega)
              have cL1 := hcL k2 hlt2
              rw [hq] at cW1
              have l0 : (0 : Int) ≤ (L.length : Int) + k2 := by omega
              have l1 : (L.length : Int) + k2 < W.length := by omega
              have l2 : (k2 : Int) < M.length := by omega
              have ei : ((L.length : Int) + (k2 : Int)).toNat = L.length + k2 := by omega
              clear hcW hcL hq
              generalize M.getD k2 ByteArray.empty = x at *
              go_wp2
              go_quiet (fail)
              go_wp2
              go_roundw
              case rel => exact ⟨k2 + 1, by omega, by go_num, hs.drewN _⟩
              case measure => simp [intOf]; omega
            · go_wp2
              go_loopw [11] (fun i wr => ∃ k : Nat, k ≤ R.length ∧ i = .int .i64 k ∧ Sit w wr aW aL aM aR W L M R) (fun i _ => R.length - (intOf i).toNat)
              case atStart => exact ⟨0, Nat.zero_le _, rfl, hs⟩
              case round =>
                clear hs
                obtain ⟨k3, hk3, rfl, hs⟩ := hrel
                by_cases hlt3 : k3 < R.length
                · have hq := GR.out k3
                  have hWx := hs.hW
                  have hRx := hs.hR
                  rcases hWx with h0 | ⟨bW, oW, rfl, hcW⟩
                  · omega
                  rcases hRx with h0 | ⟨bL, oL, rfl, hcL⟩
                  · omega
                  have cW1 := hcW (L.length + M.length + k3) (by omega)
                  have cL1 := hcL k3 hlt3
                  rw [hq] at cW1
                  have l0 : (0 : Int) ≤ (L.length : Int) + (M.length : Int) + k3 := by omega
                  have l1 : (L.length : Int) + (M.length : Int) + k3 < W.length := by omega
                  have l2 : (k3 : Int) < R.length := by omega
                  have ei : ((L.length : Int) + (M.length : Int) + (k3 : Int)).toNat = L.length + M.length + k3 := by omega
                  clear hcW hcL hq
                  generalize R.getD k3 ByteArray.empty = x at *
                  go_wp2
                  go_quiet (fail)
                  go_wp2
                  go_roundw
                  case rel => exact ⟨k3 + 1, by omega, by go_num, hs.drewN _⟩
                  case measure => simp [intOf]; omega
                · go_wp2
                  go_ret
                  exact ⟨rfl, hs.below⟩

end Go.Proofs.Qxb6628663a
