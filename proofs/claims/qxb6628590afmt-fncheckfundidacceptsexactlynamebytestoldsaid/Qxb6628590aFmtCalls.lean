/-
  THE CONTRACTS of the functions that both laws of seat b6628590aF call.
-/
import Derived.Test.Qxb6628590aFmtFacts
import Derived.Test.Qxb6628590aFmtPlain
import Derived.WalkKit
import Derived.WalkSpells
import Derived.WalkLawsBesides
namespace Go.Proofs.Qxb6628590aFmt
open Go.RowKit Go.Extern.Stop Go.Stop Go.Extern
attribute [local go_sem] Tryf.call11 Tryf.guard Tryf.fmt0 Tryf.fmt0r Tryf.op9_113 Tryf.op9_113w Tryf.ptr29 Tryf.elem29 Tryf.isError29

/-- An error came back (not nil); nothing that was there has turned. -/
def ErrOut (w : World) (e : Ending) (w' : World) : Prop := ∃ t x, e = .returned (.iface t x) ∧ Below w.heap.size w w'

set_option maxHeartbeats 400000 in
theorem f9_any (s : ByteArray) (w : World) : Calls Tryf.prog 9 #[.string s] w (ErrOut w) := by
  go_enter Tryf.func9, Tryf.ntmps9
  go_wp2
  go_ret
  exact ⟨_, _, rfl, (Below.refl _ _).alloc (Nat.le_refl _) _⟩

set_option maxHeartbeats 400000 in
theorem f10_any (F : Interp) (id : ByteArray) (blk : Nat) (w : World) (hF : F.answers w.tape) (hc0 : w.cell? ⟨blk, 0, none⟩ = some (.iface 9 (.string id))) :
    Calls Tryf.prog 10 #[.string ⟨#[37, 113, 32, 104, 97, 115, 32, 97, 32, 99, 104, 97, 114, 97, 99, 116, 101, 114, 32, 111, 116, 104, 101, 114, 32, 116, 104, 97, 110, 32, 97, 110, 32, 65, 83, 67, 73, 73, 32, 108, 101, 116, 116, 101, 114, 44, 32, 97, 32, 100, 105, 103, 105, 116, 44, 32, 45, 32, 111, 114, 32, 95]⟩, .slice (some ⟨blk, 0, none⟩) 1 1] w (ErrOut w) := by
  have hF' := answers_open hF
  go_enter Tryf.func10, Tryf.ntmps10
  go_wp2
  go_ret
  exact ⟨_, _, rfl, ((Below.refl _ _).alloc (Nat.le_refl _) _).drew⟩

/-- What CheckFundID comes to: nil exactly where the id is accepted; nothing that was there has turned. -/
def IdOut (w : World) (s : ByteArray) (e : Ending) (w' : World) : Prop :=
  Below w.heap.size w w' ∧ ((Pl.accB s = true ∧ e = .returned .nilIface) ∨ (Pl.accB s = false ∧ ∃ t x, e = .returned (.iface t x)))

theorem below_two (w : World) (o1 o2 : Obj) {w' : World} (hb : Below ((w.alloc o1).alloc o2).heap.size ((w.alloc o1).alloc o2) w') : Below w.heap.size w w' :=
  ((((Below.refl _ w).alloc (Nat.le_refl _) o1).alloc (by simp) o2).trans (hb.mono (by simp; omega)))

theorem empty_list {s : ByteArray} (h : s.size = 0) : s.toList.isEmpty = true := by
  rw [ByteArray.toList_eq, List.isEmpty_iff]
  exact List.eq_nil_of_length_eq_zero (by simpa using h)
theorem nonempty_list {s : ByteArray} (h : 0 < s.size) : s.toList.isEmpty = false := by
  rw [ByteArray.toList_eq]
  cases e : s.data.toList with
  | nil =>
    have hz : s.data.toList.length = 0 := by rw [e]; rfl
    have hz' : s.size = 0 := by simpa using hz
    omega
  | cons x l => rfl

set_option maxRecDepth 100000 in
set_option maxHeartbeats 1000000 in
theorem f7_any (F : Interp) (s : ByteArray) (w : World) (hF : F.answers w.tape) (hs : s.size ≤ 2097152) : Calls Tryf.prog 7 #[.string s] w (IdOut w s) := by
  by_cases h0 : s.size = 0
  · have he := empty_list h0
    go_enter Tryf.func7, Tryf.ntmps7
    go_wp2_with (go_at_call 9; refine (f9_any _ _).mono ?_; rintro e w' ⟨t, x, rfl, hb⟩)
    go_ret
    exact ⟨hb, .inr ⟨Pl.accB_empty h0, _, _, rfl⟩⟩
  have h0' : 0 < s.size := by omega
  have he := nonempty_list h0'
  clear h0
  go_enter Tryf.func7, Tryf.ntmps7
  go_wp2
  clear he
  go_loopw [] (fun wr => ∃ pos : Nat, wr = w.iter s pos ∧ pos ≤ s.size ∧ Hid (∀ i (hi : i < s.size), i < pos → Pl.okC (s[i]).toNat = true)) (fun wr => s.size - wr.iterPos w.heap.size)
  case atStart => exact ⟨0, rfl, Nat.zero_le _, fun i hi h => by omega⟩
  case round =>
    obtain ⟨pos, rfl, hpos, HI⟩ := hrel
    by_cases hp : pos < s.size
    · cases hok : Pl.okC (s[pos]).toNat
      · have hacc : Hid (Pl.accB s = false) := Pl.accB_not pos hp hok
        have hbad := Pl.decode_bad s pos hp hok
        have hnx : ∀ ty, (Instr.next (.pointer (some ⟨w.heap.size, 0, none⟩)) true ty).run Tryf.prog (w.iter s pos) = _ := fun ty => run_next_any w s pos ty hp
        clear hok
        generalize (Utf8.decode s pos).1 = r at *
        generalize (Utf8.decode s pos).2 = d at *
        have hcs := Pl.okC_not hbad
        clear hbad
        rcases hcs with h | ⟨h, h'⟩ | ⟨h, h'⟩ | ⟨h, h'⟩ | ⟨h, h'⟩ | h
        · have q1 : ((r : Int) == 45) = false := by rw [beq_eq_false_iff_ne]; omega
          have q2 : ((r : Int) == 95) = false := by rw [beq_eq_false_iff_ne]; omega
          go_wp2_with fail
          refine (f10_any F s _ _ (by exact hF) (by go_simp)).mono ?_
          rintro e w' ⟨t, x, rfl, hb⟩
          have hB := below_two w _ _ hb
          clear hb
          go_wp2
          go_ret
          exact ⟨hB, .inr ⟨hacc.out, _, _, rfl⟩⟩
        · have q1 : ((r : Int) == 45) = false := by rw [beq_eq_false_iff_ne]; omega
          have q2 : ((r : Int) == 95) = false := by rw [beq_eq_false_iff_ne]; omega
          go_wp2_with fail
          refine (f10_any F s _ _ (by exact hF) (by go_simp)).mono ?_
          rintro e w' ⟨t, x, rfl, hb⟩
          have hB := below_two w _ _ hb
          clear hb
          go_wp2
          go_ret
          exact ⟨hB, .inr ⟨hacc.out, _, _, rfl⟩⟩
        · have q1 : ((r : Int) == 45) = false := by rw [beq_eq_false_iff_ne]; omega
          have q2 : ((r : Int) == 95) = false := by rw [beq_eq_false_iff_ne]; omega
          have q57 : decide ((r : Int) ≤ 57) = false := decide_eq_false (by omega)
          go_wp2_with fail
          refine (f10_any F s _ _ (by exact hF) (by go_simp)).mono ?_
          rintro e w' ⟨t, x, rfl, hb⟩
          have hB := below_two w _ _ hb
          clear hb
          go_wp2
          go_ret
          exact ⟨hB, .inr ⟨hacc.out, _, _, rfl⟩⟩
        · have q1 : ((r : Int) == 45) = false := by rw [beq_eq_false_iff_ne]; omega
          have q2 : ((r : Int) == 95) = false := by rw [beq_eq_false_iff_ne]; omega
          have q57 : decide ((r : Int) ≤ 57) = false := decide_eq_false (by omega)
          have q90 : decide ((r : Int) ≤ 90) = false := decide_eq_false (by omega)
          go_wp2_with fail
          refine (f10_any F s _ _ (by exact hF) (by go_simp)).mono ?_
          rintro e w' ⟨t, x, rfl, hb⟩
          have hB := below_two w _ _ hb
          clear hb
          go_wp2
          go_ret
          exact ⟨hB, .inr ⟨hacc.out, _, _, rfl⟩⟩
        · have q1 : ((r : Int) == 45) = false := by rw [beq_eq_false_iff_ne]; omega
          have q2 : ((r : Int) == 95) = false := by rw [beq_eq_false_iff_ne]; omega
          have q57 : decide ((r : Int) ≤ 57) = false := decide_eq_false (by omega)
          have q90 : decide ((r : Int) ≤ 90) = false := decide_eq_false (by omega)
          go_wp2_with fail
          refine (f10_any F s _ _ (by exact hF) (by go_simp)).mono ?_
          rintro e w' ⟨t, x, rfl, hb⟩
          have hB := below_two w _ _ hb
          clear hb
          go_wp2
          go_ret
          exact ⟨hB, .inr ⟨hacc.out, _, _, rfl⟩⟩
        · have q1 : ((r : Int) == 45) = false := by rw [beq_eq_false_iff_ne]; omega
          have q2 : ((r : Int) == 95) = false := by rw [beq_eq_false_iff_ne]; omega
          have q57 : decide ((r : Int) ≤ 57) = false := decide_eq_false (by omega)
          have q90 : decide ((r : Int) ≤ 90) = false := decide_eq_false (by omega)
          have q122 : decide ((r : Int) ≤ 122) = false := decide_eq_false (by omega)
          go_wp2_with fail
          refine (f10_any F s _ _ (by exact hF) (by go_simp)).mono ?_
          rintro e w' ⟨t, x, rfl, hb⟩
          have hB := below_two w _ _ hb
          clear hb
          go_wp2
          go_ret
          exact ⟨hB, .inr ⟨hacc.out, _, _, rfl⟩⟩
      · have hnx : ∀ ty, (Instr.next (.pointer (some ⟨w.heap.size, 0, none⟩)) true ty).run Tryf.prog (w.iter s pos) = _ := fun ty => run_next_any w s pos ty hp
        rw [Pl.decode_ok s pos hp hok] at hnx
        have HO : Hid (Pl.okC (s[pos]).toNat = true) := hok
        have hcs := Pl.okC_cases hok
        clear hok
        obtain ⟨r, hr⟩ : ∃ r : Nat, r = (s[pos]).toNat := ⟨_, rfl⟩
        rw [← hr] at hcs hnx
        clear hr
        rcases hcs with ⟨h, h'⟩ | ⟨h, h'⟩ | ⟨h, h'⟩ | rfl | rfl
        all_goals
          go_wp2
          go_roundw
          case rel => exact ⟨pos + 1, rfl, by omega, fun i hi h => by
            by_cases e : i = pos
            · subst e; exact HO.out
            · exact HI.out i hi (by omega)⟩
          case measure => simp; omega
    · have hnx : ∀ ty, (Instr.next (.pointer (some ⟨w.heap.size, 0, none⟩)) true ty).run Tryf.prog (w.iter s pos) = _ := fun ty => run_next_end w s pos ty hp
      go_wp2
      go_ret
      exact ⟨(Below.refl _ _).alloc (Nat.le_refl _) _, .inl ⟨Pl.accB_of h0' (fun i hi => HI.out i hi (by omega)), rfl⟩⟩

/-- Some bool came back; nothing has turned. -/
def SomeB (w : World) (e : Ending) (w' : World) : Prop := ∃ b, e = .returned (.bool b) ∧ w = w'

set_option maxHeartbeats 400000 in
theorem f5_any (s : ByteArray) (w : World) : Calls Tryf.prog 5 #[.string s] w (SomeB w) := by
  by_cases h : (1048576 : Int) < s.size
  · go_enter Tryf.func5, Tryf.ntmps5
    go_wp2
    go_ret
    exact ⟨_, rfl, rfl⟩
  · go_enter Tryf.func5, Tryf.ntmps5
    go_wp2
    go_ret
    exact ⟨_, rfl, rfl⟩

set_option maxHeartbeats 400000 in
theorem f8_any (s t : ByteArray) (w : World) : Calls Tryf.prog 8 #[.string s, .string t] w (SomeB w) := by
  by_cases h : (1048576 : Int) < s.size
  · go_enter Tryf.func8, Tryf.ntmps8
    go_wp2
    go_ret
    exact ⟨_, rfl, rfl⟩
  · go_enter Tryf.func8, Tryf.ntmps8
    go_wp2
    all_goals
      go_ret
      exact ⟨_, rfl, rfl⟩

set_option maxHeartbeats 400000 in
theorem f6_any (c : Nat) (w : World) : Calls Tryf.prog 6 #[.int .u8 c] w fun e w' => e = .returned (.bool (Pl.okC c)) ∧ w' = w := by
  cases hok : Pl.okC c
  · have hcs := Pl.okC_not hok
    have q1 : ((c : Int) == 45) = false := by rw [beq_eq_false_iff_ne]; omega
    have q2 : ((c : Int) == 95) = false := by rw [beq_eq_false_iff_ne]; omega
    clear hok
    rcases hcs with h | ⟨h, h'⟩ | ⟨h, h'⟩ | ⟨h, h'⟩ | ⟨h, h'⟩ | h
    all_goals
      go_enter Tryf.func6, Tryf.ntmps6
      go_wp2
      go_ret
      exact ⟨rfl, rfl⟩
  · have hcs := Pl.okC_cases hok
    clear hok
    rcases hcs with ⟨h, h'⟩ | ⟨h, h'⟩ | ⟨h, h'⟩ | rfl | rfl
    all_goals
      go_enter Tryf.func6, Tryf.ntmps6
      go_wp2
      go_ret
      exact ⟨rfl, rfl⟩

end Go.Proofs.Qxb6628590aFmt
