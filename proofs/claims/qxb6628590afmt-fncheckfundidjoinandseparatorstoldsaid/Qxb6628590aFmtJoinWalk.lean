/-
  THE WALK of 'FnCheckFundIDJoinAndSeparators' (function 4), for whatever fmt gives.
-/
import Derived.Test.Qxb6628590aFmtNameWalk
namespace Go.Proofs.Qxb6628590aFmt
open Go.RowKit Go.Extern.Stop Go.Stop Go.Extern

theorem data_append (s t : ByteArray) : (s ++ t).data.toList = s.data.toList ++ t.data.toList := by simp

theorem nil_of_size {s : ByteArray} (h : s.size = 0) : s.data.toList = [] := List.eq_nil_of_length_eq_zero (by simpa using h)
theorem isEmpty_of {s : ByteArray} (h : ¬ s.size = 0) : s.data.toList.isEmpty = false := by
  cases e : s.data.toList with
  | nil =>
    have hz : s.data.toList.length = 0 := by rw [e]; rfl
    exact absurd (by simpa using hz) h
  | cons x l => rfl

theorem acc_left {s t : ByteArray} (h : t.size = 0) : Pl.accB (s ++ t) = Pl.accB s := by
  unfold Pl.accB; rw [data_append, nil_of_size h, List.append_nil]
theorem acc_right {s t : ByteArray} (h : s.size = 0) : Pl.accB (s ++ t) = Pl.accB t := by
  unfold Pl.accB; rw [data_append, nil_of_size h, List.nil_append]
theorem acc_both {s t : ByteArray} (h : ¬ s.size = 0) (h' : ¬ t.size = 0) : Pl.accB (s ++ t) = (Pl.accB s && Pl.accB t) := by
  unfold Pl.accB
  have e : (s.data.toList ++ t.data.toList).isEmpty = false := by
    have := isEmpty_of h
    cases l : s.data.toList with
    | nil => rw [l] at this; cases this
    | cons x r => rfl
  rw [data_append, Pl.okAll_append, isEmpty_of h, isEmpty_of h', e]
  simp
theorem acc_sep (s t : ByteArray) (c : UInt8) (h : Pl.okC c.toNat = false) : Pl.accB (s ++ ⟨#[c]⟩ ++ t) = false := by
  unfold Pl.accB
  rw [data_append, data_append, Pl.okAll_append, Pl.okAll_append]
  have : Pl.okAll (ByteArray.mk #[c]).data.toList = false := by simp [Pl.okAll, h]
  rw [this]
  simp

theorem f7_yes (F : Interp) (s : ByteArray) (w : World) (hF : F.answers w.tape) (hs : s.size ≤ 2097152) (h : Pl.accB s = true) :
    Calls Tryf.prog 7 #[.string s] w fun e w' => e = .returned .nilIface ∧ Below w.heap.size w w' := by
  refine (f7_any F s w hF hs).mono ?_
  rintro e w' ⟨hB, ⟨ha, rfl⟩ | ⟨ha, t, x, rfl⟩⟩
  · exact ⟨rfl, hB⟩
  · rw [h] at ha; cases ha
theorem f7_no (F : Interp) (s : ByteArray) (w : World) (hF : F.answers w.tape) (hs : s.size ≤ 2097152) (h : Pl.accB s = false) :
    Calls Tryf.prog 7 #[.string s] w fun e w' => ∃ t x, e = .returned (.iface t x) ∧ Below w.heap.size w w' := by
  refine (f7_any F s w hF hs).mono ?_
  rintro e w' ⟨hB, ⟨ha, rfl⟩ | ⟨ha, t, x, rfl⟩⟩
  · rw [h] at ha; cases ha
  · exact ⟨_, _, rfl, hB⟩

set_option maxRecDepth 100000 in
set_option maxHeartbeats 1000000 in
theorem f4_walk (F : Interp) (s t : ByteArray) (w : World) (hF : F.answers w.tape) : Calls Tryf.prog 4 #[.string s, .string t] w (LawOut w) := by
  go_enter Tryf.func4, Tryf.ntmps4
  go_wp2_with fail
  refine (f8_any s t _).mono ?_
  rintro e w' ⟨b, rfl, rfl⟩
  cases b
  · go_wp2
    go_ret
    exact ⟨rfl, Below.refl _ _⟩
  by_cases hbig : (524288 : Int) < s.size
  · go_wp2
    go_ret
    exact ⟨rfl, Below.refl _ _⟩
  by_cases hbig2 : (524288 : Int) < t.size
  · go_wp2
    go_ret
    exact ⟨rfl, Below.refl _ _⟩
  have z1 : (s ++ t).size ≤ 2097152 := by simp; omega
  have z2 : (s ++ ⟨#[47]⟩ ++ t).size ≤ 2097152 := by simp; have : (ByteArray.mk #[47]).size = 1 := rfl; omega
  have z3 : (s ++ ⟨#[46]⟩ ++ t).size ≤ 2097152 := by simp; have : (ByteArray.mk #[46]).size = 1 := rfl; omega
  have k4 : Hid (Pl.accB (s ++ ⟨#[47]⟩ ++ t) = false) := acc_sep s t 47 (by decide)
  have k5 : Hid (Pl.accB (s ++ ⟨#[46]⟩ ++ t) = false) := acc_sep s t 46 (by decide)
  have hF0 := hF
  by_cases e1 : s.size = 0 <;> by_cases e2 : t.size = 0
  · have k1 : Hid (Pl.accB (s ++ t) = false) := by rw [acc_left e2]; exact Pl.accB_empty e1
    have k2 : Hid (Pl.accB s = false) := Pl.accB_empty e1
    have k3 : Hid (Pl.accB t = false) := Pl.accB_empty e2
    have b1 := empty_list e1
    have b2 := empty_list e2
    go_wp2_with fail
    have hc := f7_no F (s ++ t) w hF0 z1 k1.out
    refine hc.mono ?_
    clear hc
    rintro e w1 ⟨t1, x1, rfl, hB1⟩
    have hF1 : F.answers w1.tape := by rw [hB1.tape]; exact hF0
    have hC1 : Below w.heap.size w w1 := hB1
    clear hB1
    go_wp2_with fail
    have hc := f7_no F s w1 hF1 (by omega) k2.out
    refine hc.mono ?_
    clear hc
    rintro e w2 ⟨t2, x2, rfl, hB2⟩
    have hF2 : F.answers w2.tape := by rw [hB2.tape]; exact hF1
    have hC2 : Below w.heap.size w w2 := hC1.trans (hB2.mono hC1.size)
    clear hB2
    go_wp2_with fail
    have hc := f7_no F t w2 hF2 (by omega) k3.out
    refine hc.mono ?_
    clear hc
    rintro e w3 ⟨t3, x3, rfl, hB3⟩
    have hF3 : F.answers w3.tape := by rw [hB3.tape]; exact hF2
    have hC3 : Below w.heap.size w w3 := hC2.trans (hB3.mono hC2.size)
    clear hB3
    go_wp2_with fail
    have hc := f7_no F (s ++ ⟨#[47]⟩ ++ t) w3 hF3 z2 k4.out
    refine hc.mono ?_
    clear hc
    rintro e w4 ⟨t4, x4, rfl, hB4⟩
    have hF4 : F.answers w4.tape := by rw [hB4.tape]; exact hF3
    have hC4 : Below w.heap.size w w4 := hC3.trans (hB4.mono hC3.size)
    clear hB4
    go_wp2_with fail
    have hc := f7_no F (s ++ ⟨#[46]⟩ ++ t) w4 hF4 z3 k5.out
    refine hc.mono ?_
    clear hc
    rintro e w5 ⟨t5, x5, rfl, hB5⟩
    have hF5 : F.answers w5.tape := by rw [hB5.tape]; exact hF4
    have hC5 : Below w.heap.size w w5 := hC4.trans (hB5.mono hC4.size)
    clear hB5
    go_wp2
    go_ret
    exact ⟨rfl, hC5⟩
  · have k2 : Hid (Pl.accB s = false) := Pl.accB_empty e1
    have b1 := empty_list e1
    have b2 := nonempty_list (show 0 < t.size by omega)
    have e2' : 0 < t.size := by omega
    cases a2 : Pl.accB t
    · have k1 : Hid (Pl.accB (s ++ t) = false) := (acc_right e1).trans a2
      have k3 : Hid (Pl.accB t = false) := a2
      clear a2
      go_wp2_with fail
      have hc := f7_no F (s ++ t) w hF0 z1 k1.out
      refine hc.mono ?_
      clear hc
      rintro e w1 ⟨t1, x1, rfl, hB1⟩
      have hF1 : F.answers w1.tape := by rw [hB1.tape]; exact hF0
      have hC1 : Below w.heap.size w w1 := hB1
      clear hB1
      go_wp2_with fail
      have hc := f7_no F s w1 hF1 (by omega) k2.out
      refine hc.mono ?_
      clear hc
      rintro e w2 ⟨t2, x2, rfl, hB2⟩
      have hF2 : F.answers w2.tape := by rw [hB2.tape]; exact hF1
      have hC2 : Below w.heap.size w w2 := hC1.trans (hB2.mono hC1.size)
      clear hB2
      go_wp2_with fail
      have hc := f7_no F t w2 hF2 (by omega) k3.out
      refine hc.mono ?_
      clear hc
      rintro e w3 ⟨t3, x3, rfl, hB3⟩
      have hF3 : F.answers w3.tape := by rw [hB3.tape]; exact hF2
      have hC3 : Below w.heap.size w w3 := hC2.trans (hB3.mono hC2.size)
      clear hB3
      go_wp2_with fail
      have hc := f7_no F (s ++ ⟨#[47]⟩ ++ t) w3 hF3 z2 k4.out
      refine hc.mono ?_
      clear hc
      rintro e w4 ⟨t4, x4, rfl, hB4⟩
      have hF4 : F.answers w4.tape := by rw [hB4.tape]; exact hF3
      have hC4 : Below w.heap.size w w4 := hC3.trans (hB4.mono hC3.size)
      clear hB4
      go_wp2_with fail
      have hc := f7_no F (s ++ ⟨#[46]⟩ ++ t) w4 hF4 z3 k5.out
      refine hc.mono ?_
      clear hc
      rintro e w5 ⟨t5, x5, rfl, hB5⟩
      have hF5 : F.answers w5.tape := by rw [hB5.tape]; exact hF4
      have hC5 : Below w.heap.size w w5 := hC4.trans (hB5.mono hC4.size)
      clear hB5
      go_wp2
      go_ret
      exact ⟨rfl, hC5⟩
    · have k1 : Hid (Pl.accB (s ++ t) = true) := (acc_right e1).trans a2
      have k3 : Hid (Pl.accB t = true) := a2
      clear a2
      go_wp2_with fail
      have hc := f7_yes F (s ++ t) w hF0 z1 k1.out
      refine hc.mono ?_
      clear hc
      rintro e w1 ⟨rfl, hB1⟩
      have hF1 : F.answers w1.tape := by rw [hB1.tape]; exact hF0
      have hC1 : Below w.heap.size w w1 := hB1
      clear hB1
      go_wp2_with fail
      have hc := f7_no F s w1 hF1 (by omega) k2.out
      refine hc.mono ?_
      clear hc
      rintro e w2 ⟨t2, x2, rfl, hB2⟩
      have hF2 : F.answers w2.tape := by rw [hB2.tape]; exact hF1
      have hC2 : Below w.heap.size w w2 := hC1.trans (hB2.mono hC1.size)
      clear hB2
      go_wp2_with fail
      have hc := f7_yes F t w2 hF2 (by omega) k3.out
      refine hc.mono ?_
      clear hc
      rintro e w3 ⟨rfl, hB3⟩
      have hF3 : F.answers w3.tape := by rw [hB3.tape]; exact hF2
      have hC3 : Below w.heap.size w w3 := hC2.trans (hB3.mono hC2.size)
      clear hB3
      go_wp2_with fail
      have hc := f7_no F (s ++ ⟨#[47]⟩ ++ t) w3 hF3 z2 k4.out
      refine hc.mono ?_
      clear hc
      rintro e w4 ⟨t4, x4, rfl, hB4⟩
      have hF4 : F.answers w4.tape := by rw [hB4.tape]; exact hF3
      have hC4 : Below w.heap.size w w4 := hC3.trans (hB4.mono hC3.size)
      clear hB4
      go_wp2_with fail
      have hc := f7_no F (s ++ ⟨#[46]⟩ ++ t) w4 hF4 z3 k5.out
      refine hc.mono ?_
      clear hc
      rintro e w5 ⟨t5, x5, rfl, hB5⟩
      have hF5 : F.answers w5.tape := by rw [hB5.tape]; exact hF4
      have hC5 : Below w.heap.size w w5 := hC4.trans (hB5.mono hC4.size)
      clear hB5
      go_wp2
      go_ret
      exact ⟨rfl, hC5⟩
  · have k3 : Hid (Pl.accB t = false) := Pl.accB_empty e2
    have b2 := empty_list e2
    have b1 := nonempty_list (show 0 < s.size by omega)
    have e1' : 0 < s.size := by omega
    cases a1 : Pl.accB s
    · have k1 : Hid (Pl.accB (s ++ t) = false) := (acc_left e2).trans a1
      have k2 : Hid (Pl.accB s = false) := a1
      clear a1
      go_wp2_with fail
      have hc := f7_no F (s ++ t) w hF0 z1 k1.out
      refine hc.mono ?_
      clear hc
      rintro e w1 ⟨t1, x1, rfl, hB1⟩
      have hF1 : F.answers w1.tape := by rw [hB1.tape]; exact hF0
      have hC1 : Below w.heap.size w w1 := hB1
      clear hB1
      go_wp2_with fail
      have hc := f7_no F s w1 hF1 (by omega) k2.out
      refine hc.mono ?_
      clear hc
      rintro e w2 ⟨t2, x2, rfl, hB2⟩
      have hF2 : F.answers w2.tape := by rw [hB2.tape]; exact hF1
      have hC2 : Below w.heap.size w w2 := hC1.trans (hB2.mono hC1.size)
      clear hB2
      go_wp2_with fail
      have hc := f7_no F t w2 hF2 (by omega) k3.out
      refine hc.mono ?_
      clear hc
      rintro e w3 ⟨t3, x3, rfl, hB3⟩
      have hF3 : F.answers w3.tape := by rw [hB3.tape]; exact hF2
      have hC3 : Below w.heap.size w w3 := hC2.trans (hB3.mono hC2.size)
      clear hB3
      go_wp2_with fail
      have hc := f7_no F (s ++ ⟨#[47]⟩ ++ t) w3 hF3 z2 k4.out
      refine hc.mono ?_
      clear hc
      rintro e w4 ⟨t4, x4, rfl, hB4⟩
      have hF4 : F.answers w4.tape := by rw [hB4.tape]; exact hF3
      have hC4 : Below w.heap.size w w4 := hC3.trans (hB4.mono hC3.size)
      clear hB4
      go_wp2_with fail
      have hc := f7_no F (s ++ ⟨#[46]⟩ ++ t) w4 hF4 z3 k5.out
      refine hc.mono ?_
      clear hc
      rintro e w5 ⟨t5, x5, rfl, hB5⟩
      have hF5 : F.answers w5.tape := by rw [hB5.tape]; exact hF4
      have hC5 : Below w.heap.size w w5 := hC4.trans (hB5.mono hC4.size)
      clear hB5
      go_wp2
      go_ret
      exact ⟨rfl, hC5⟩
    · have k1 : Hid (Pl.accB (s ++ t) = true) := (acc_left e2).trans a1
      have k2 : Hid (Pl.accB s = true) := a1
      clear a1
      go_wp2_with fail
      have hc := f7_yes F (s ++ t) w hF0 z1 k1.out
      refine hc.mono ?_
      clear hc
      rintro e w1 ⟨rfl, hB1⟩
      have hF1 : F.answers w1.tape := by rw [hB1.tape]; exact hF0
      have hC1 : Below w.heap.size w w1 := hB1
      clear hB1
      go_wp2_with fail
      have hc := f7_yes F s w1 hF1 (by omega) k2.out
      refine hc.mono ?_
      clear hc
      rintro e w2 ⟨rfl, hB2⟩
      have hF2 : F.answers w2.tape := by rw [hB2.tape]; exact hF1
      have hC2 : Below w.heap.size w w2 := hC1.trans (hB2.mono hC1.size)
      clear hB2
      go_wp2_with fail
      have hc := f7_no F t w2 hF2 (by omega) k3.out
      refine hc.mono ?_
      clear hc
      rintro e w3 ⟨t3, x3, rfl, hB3⟩
      have hF3 : F.answers w3.tape := by rw [hB3.tape]; exact hF2
      have hC3 : Below w.heap.size w w3 := hC2.trans (hB3.mono hC2.size)
      clear hB3
      go_wp2_with fail
      have hc := f7_no F (s ++ ⟨#[47]⟩ ++ t) w3 hF3 z2 k4.out
      refine hc.mono ?_
      clear hc
      rintro e w4 ⟨t4, x4, rfl, hB4⟩
      have hF4 : F.answers w4.tape := by rw [hB4.tape]; exact hF3
      have hC4 : Below w.heap.size w w4 := hC3.trans (hB4.mono hC3.size)
      clear hB4
      go_wp2_with fail
      have hc := f7_no F (s ++ ⟨#[46]⟩ ++ t) w4 hF4 z3 k5.out
      refine hc.mono ?_
      clear hc
      rintro e w5 ⟨t5, x5, rfl, hB5⟩
      have hF5 : F.answers w5.tape := by rw [hB5.tape]; exact hF4
      have hC5 : Below w.heap.size w w5 := hC4.trans (hB5.mono hC4.size)
      clear hB5
      go_wp2
      go_ret
      exact ⟨rfl, hC5⟩
  · have b1 := nonempty_list (show 0 < s.size by omega)
    have b2 := nonempty_list (show 0 < t.size by omega)
    have e1' : 0 < s.size := by omega
    have e2' : 0 < t.size := by omega
    cases a1 : Pl.accB s <;> cases a2 : Pl.accB t
    · have k1 : Hid (Pl.accB (s ++ t) = false) := (acc_both e1 e2).trans (by rw [a1, a2]; rfl)
      have k2 : Hid (Pl.accB s = false) := a1
      have k3 : Hid (Pl.accB t = false) := a2
      clear a1 a2
      go_wp2_with fail
      have hc := f7_no F (s ++ t) w hF0 z1 k1.out
      refine hc.mono ?_
      clear hc
      rintro e w1 ⟨t1, x1, rfl, hB1⟩
      have hF1 : F.answers w1.tape := by rw [hB1.tape]; exact hF0
      have hC1 : Below w.heap.size w w1 := hB1
      clear hB1
      go_wp2_with fail
      have hc := f7_no F s w1 hF1 (by omega) k2.out
      refine hc.mono ?_
      clear hc
      rintro e w2 ⟨t2, x2, rfl, hB2⟩
      have hF2 : F.answers w2.tape := by rw [hB2.tape]; exact hF1
      have hC2 : Below w.heap.size w w2 := hC1.trans (hB2.mono hC1.size)
      clear hB2
      go_wp2_with fail
      have hc := f7_no F t w2 hF2 (by omega) k3.out
      refine hc.mono ?_
      clear hc
      rintro e w3 ⟨t3, x3, rfl, hB3⟩
      have hF3 : F.answers w3.tape := by rw [hB3.tape]; exact hF2
      have hC3 : Below w.heap.size w w3 := hC2.trans (hB3.mono hC2.size)
      clear hB3
      go_wp2_with fail
      have hc := f7_no F (s ++ ⟨#[47]⟩ ++ t) w3 hF3 z2 k4.out
      refine hc.mono ?_
      clear hc
      rintro e w4 ⟨t4, x4, rfl, hB4⟩
      have hF4 : F.answers w4.tape := by rw [hB4.tape]; exact hF3
      have hC4 : Below w.heap.size w w4 := hC3.trans (hB4.mono hC3.size)
      clear hB4
      go_wp2_with fail
      have hc := f7_no F (s ++ ⟨#[46]⟩ ++ t) w4 hF4 z3 k5.out
      refine hc.mono ?_
      clear hc
      rintro e w5 ⟨t5, x5, rfl, hB5⟩
      have hF5 : F.answers w5.tape := by rw [hB5.tape]; exact hF4
      have hC5 : Below w.heap.size w w5 := hC4.trans (hB5.mono hC4.size)
      clear hB5
      go_wp2
      go_ret
      exact ⟨rfl, hC5⟩
    · have k1 : Hid (Pl.accB (s ++ t) = false) := (acc_both e1 e2).trans (by rw [a1, a2]; rfl)
      have k2 : Hid (Pl.accB s = false) := a1
      have k3 : Hid (Pl.accB t = true) := a2
      clear a1 a2
      go_wp2_with fail
      have hc := f7_no F (s ++ t) w hF0 z1 k1.out
      refine hc.mono ?_
      clear hc
      rintro e w1 ⟨t1, x1, rfl, hB1⟩
      have hF1 : F.answers w1.tape := by rw [hB1.tape]; exact hF0
      have hC1 : Below w.heap.size w w1 := hB1
      clear hB1
      go_wp2_with fail
      have hc := f7_no F s w1 hF1 (by omega) k2.out
      refine hc.mono ?_
      clear hc
      rintro e w2 ⟨t2, x2, rfl, hB2⟩
      have hF2 : F.answers w2.tape := by rw [hB2.tape]; exact hF1
      have hC2 : Below w.heap.size w w2 := hC1.trans (hB2.mono hC1.size)
      clear hB2
      go_wp2_with fail
      have hc := f7_yes F t w2 hF2 (by omega) k3.out
      refine hc.mono ?_
      clear hc
      rintro e w3 ⟨rfl, hB3⟩
      have hF3 : F.answers w3.tape := by rw [hB3.tape]; exact hF2
      have hC3 : Below w.heap.size w w3 := hC2.trans (hB3.mono hC2.size)
      clear hB3
      go_wp2_with fail
      have hc := f7_no F (s ++ ⟨#[47]⟩ ++ t) w3 hF3 z2 k4.out
      refine hc.mono ?_
      clear hc
      rintro e w4 ⟨t4, x4, rfl, hB4⟩
      have hF4 : F.answers w4.tape := by rw [hB4.tape]; exact hF3
      have hC4 : Below w.heap.size w w4 := hC3.trans (hB4.mono hC3.size)
      clear hB4
      go_wp2_with fail
      have hc := f7_no F (s ++ ⟨#[46]⟩ ++ t) w4 hF4 z3 k5.out
      refine hc.mono ?_
      clear hc
      rintro e w5 ⟨t5, x5, rfl, hB5⟩
      have hF5 : F.answers w5.tape := by rw [hB5.tape]; exact hF4
      have hC5 : Below w.heap.size w w5 := hC4.trans (hB5.mono hC4.size)
      clear hB5
      go_wp2
      go_ret
      exact ⟨rfl, hC5⟩
    · have k1 : Hid (Pl.accB (s ++ t) = false) := (acc_both e1 e2).trans (by rw [a1, a2]; rfl)
      have k2 : Hid (Pl.accB s = true) := a1
      have k3 : Hid (Pl.accB t = false) := a2
      clear a1 a2
      go_wp2_with fail
      have hc := f7_no F (s ++ t) w hF0 z1 k1.out
      refine hc.mono ?_
      clear hc
      rintro e w1 ⟨t1, x1, rfl, hB1⟩
      have hF1 : F.answers w1.tape := by rw [hB1.tape]; exact hF0
      have hC1 : Below w.heap.size w w1 := hB1
      clear hB1
      go_wp2_with fail
      have hc := f7_yes F s w1 hF1 (by omega) k2.out
      refine hc.mono ?_
      clear hc
      rintro e w2 ⟨rfl, hB2⟩
      have hF2 : F.answers w2.tape := by rw [hB2.tape]; exact hF1
      have hC2 : Below w.heap.size w w2 := hC1.trans (hB2.mono hC1.size)
      clear hB2
      go_wp2_with fail
      have hc := f7_no F t w2 hF2 (by omega) k3.out
      refine hc.mono ?_
      clear hc
      rintro e w3 ⟨t3, x3, rfl, hB3⟩
      have hF3 : F.answers w3.tape := by rw [hB3.tape]; exact hF2
      have hC3 : Below w.heap.size w w3 := hC2.trans (hB3.mono hC2.size)
      clear hB3
      go_wp2_with fail
      have hc := f7_no F (s ++ ⟨#[47]⟩ ++ t) w3 hF3 z2 k4.out
      refine hc.mono ?_
      clear hc
      rintro e w4 ⟨t4, x4, rfl, hB4⟩
      have hF4 : F.answers w4.tape := by rw [hB4.tape]; exact hF3
      have hC4 : Below w.heap.size w w4 := hC3.trans (hB4.mono hC3.size)
      clear hB4
      go_wp2_with fail
      have hc := f7_no F (s ++ ⟨#[46]⟩ ++ t) w4 hF4 z3 k5.out
      refine hc.mono ?_
      clear hc
      rintro e w5 ⟨t5, x5, rfl, hB5⟩
      have hF5 : F.answers w5.tape := by rw [hB5.tape]; exact hF4
      have hC5 : Below w.heap.size w w5 := hC4.trans (hB5.mono hC4.size)
      clear hB5
      go_wp2
      go_ret
      exact ⟨rfl, hC5⟩
    · have k1 : Hid (Pl.accB (s ++ t) = true) := (acc_both e1 e2).trans (by rw [a1, a2]; rfl)
      have k2 : Hid (Pl.accB s = true) := a1
      have k3 : Hid (Pl.accB t = true) := a2
      clear a1 a2
      go_wp2_with fail
      have hc := f7_yes F (s ++ t) w hF0 z1 k1.out
      refine hc.mono ?_
      clear hc
      rintro e w1 ⟨rfl, hB1⟩
      have hF1 : F.answers w1.tape := by rw [hB1.tape]; exact hF0
      have hC1 : Below w.heap.size w w1 := hB1
      clear hB1
      go_wp2_with fail
      have hc := f7_yes F s w1 hF1 (by omega) k2.out
      refine hc.mono ?_
      clear hc
      rintro e w2 ⟨rfl, hB2⟩
      have hF2 : F.answers w2.tape := by rw [hB2.tape]; exact hF1
      have hC2 : Below w.heap.size w w2 := hC1.trans (hB2.mono hC1.size)
      clear hB2
      go_wp2_with fail
      have hc := f7_yes F t w2 hF2 (by omega) k3.out
      refine hc.mono ?_
      clear hc
      rintro e w3 ⟨rfl, hB3⟩
      have hF3 : F.answers w3.tape := by rw [hB3.tape]; exact hF2
      have hC3 : Below w.heap.size w w3 := hC2.trans (hB3.mono hC2.size)
      clear hB3
      go_wp2_with fail
      have hc := f7_no F (s ++ ⟨#[47]⟩ ++ t) w3 hF3 z2 k4.out
      refine hc.mono ?_
      clear hc
      rintro e w4 ⟨t4, x4, rfl, hB4⟩
      have hF4 : F.answers w4.tape := by rw [hB4.tape]; exact hF3
      have hC4 : Below w.heap.size w w4 := hC3.trans (hB4.mono hC3.size)
      clear hB4
      go_wp2_with fail
      have hc := f7_no F (s ++ ⟨#[46]⟩ ++ t) w4 hF4 z3 k5.out
      refine hc.mono ?_
      clear hc
      rintro e w5 ⟨t5, x5, rfl, hB5⟩
      have hF5 : F.answers w5.tape := by rw [hB5.tape]; exact hF4
      have hC5 : Below w.heap.size w w5 := hC4.trans (hB5.mono hC4.size)
      clear hB5
      go_wp2
      go_ret
      exact ⟨rfl, hC5⟩

end Go.Proofs.Qxb6628590aFmt
