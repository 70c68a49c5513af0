/-
  THE WALK of 'FnCheckFundIDAcceptsExactlyNameBytes' (function 3), for whatever fmt gives.
-/
import Derived.Test.Qxb6628590aFmtCalls
namespace Go.Proofs.Qxb6628590aFmt
open Go.RowKit Go.Extern.Stop Go.Stop Go.Extern

/-- The law's end: true; nothing that was there has turned. -/
def LawOut (w : World) (e : Ending) (w' : World) : Prop := e = .returned (.bool true) ∧ Below w.heap.size w w'

set_option maxRecDepth 100000 in
set_option maxHeartbeats 1000000 in
theorem f3_walk (F : Interp) (s : ByteArray) (w : World) (hF : F.answers w.tape) : Calls Tryf.prog 3 #[.string s] w (LawOut w) := by
  go_enter Tryf.func3, Tryf.ntmps3
  go_wp2_with fail
  refine (f5_any s _).mono ?_
  rintro e w' ⟨b, rfl, rfl⟩
  cases b
  · go_wp2
    go_ret
    exact ⟨rfl, Below.refl _ _⟩
  by_cases hbig : (1048576 : Int) < s.size
  · go_wp2
    go_ret
    exact ⟨rfl, Below.refl _ _⟩
  by_cases h0 : s.size = 0
  · have hA : Hid (Pl.accB s = false) := Pl.accB_empty h0
    go_wp2
    refine wp_loop_rounds 1 ?_; rw [rounds_succ]
    go_wp2_with fail
    refine (f7_any F s _ hF (by omega)).mono ?_
    rintro e w' ⟨hB, ⟨ha, rfl⟩ | ⟨ha, t, x, rfl⟩⟩
    · rw [hA.out] at ha; cases ha
    clear ha
    go_wp2
    go_ret
    exact ⟨rfl, hB⟩
  · have h0' : 0 < s.size := by omega
    go_wp2
    go_loop [3, 4] (fun b i => ∃ k : Nat, k ≤ s.size ∧ b = .bool true ∧ i = .int .i64 k ∧ Hid (∀ i (hi : i < s.size), i < k → Pl.okC (s[i]).toNat = true)) (fun _ i => s.size - (intOf i).toNat)
    case atStart => exact ⟨0, Nat.zero_le _, rfl, rfl, fun i hi h => by omega⟩
    case round =>
      obtain ⟨k, hk, rfl, rfl, HI⟩ := hrel
      by_cases hlt : k < s.size
      · cases hok : Pl.okC (s[k]).toNat
        · have hA : Hid (Pl.accB s = false) := Pl.accB_not k hlt hok
          go_wp2_with (first
            | (go_at_call 6; refine (f6_any _ _).mono ?_; rintro e w' ⟨rfl, rfl⟩)
            | (go_at_call 7; refine (f7_any F s _ hF (by omega)).mono ?_; rintro e w' ⟨hB, ⟨ha, rfl⟩ | ⟨ha, t, x, rfl⟩⟩))
          · have ha : Pl.accB s = true := by assumption
            rw [hA.out] at ha; cases ha
          · go_ret
            exact ⟨rfl, by assumption⟩
        · go_wp2_with (go_at_call 6; refine (f6_any _ _).mono ?_; rintro e w' ⟨rfl, rfl⟩)
          go_round
          case rel => exact ⟨k + 1, by omega, rfl, by go_num, fun i hi h => by
            by_cases e : i = k
            · subst e; exact hok
            · exact HI.out i hi (by omega)⟩
          case measure => simp [intOf]; omega
      · have hA : Hid (Pl.accB s = true) := Pl.accB_of h0' (fun i hi => HI.out i hi (by omega))
        go_wp2_with fail
        refine (f7_any F s _ hF (by omega)).mono ?_
        rintro e w' ⟨hB, ⟨ha, rfl⟩ | ⟨ha, t, x, rfl⟩⟩
        · clear ha
          go_wp2
          go_ret
          exact ⟨rfl, hB⟩
        · rw [hA.out] at ha; cases ha

end Go.Proofs.Qxb6628590aFmt
