/-
  THE WALK of 'FnHasInsertGrants' (function 3).
-/
import Derived.Test.Qxb6628544aInsMem
namespace Go.Proofs.Qxb6628544a
open Go.RowKit

set_option maxHeartbeats 4000000 in
theorem f3_walk (a : Option Addr) (n c : Nat) (S : Nat → ByteArray) (x q : ByteArray) (w : World) (hn : n ≤ 9223372036854775807) (ha : StrRow w a n S) (hnil : a = none → n = 0 ∧ c = 0) :
    Calls Try.prog 3 #[.slice a n c, .string x, .string q] w (LawOut w) := by
  have qn : ∀ (w : World) (a : Option Addr) (n c n' c' : Nat), (binOp .neq 22 (.slice a n c) (.slice none n' c')).run Try.prog w = .ok (.bool (!a.isNone)) w := fun w a n c n' c' => run_neq_slice_nil_any w _ _ a n c n' c' Try.underlying22
  go_enter Try.func3, Try.ntmps3
  go_wp2_with fail
  refine (f5_any a n c S x q _ hn ha).mono ?_
  rintro e w' ⟨b, rfl, hb, rfl⟩
  cases b
  · go_wp2
    go_ret
    exact ⟨rfl, Below.refl _ _⟩
  have hn1 := hb rfl
  clear hb hn
  go_wp2_with fail
  refine (f6_any a n c S x q _ hn1 ha).mono ?_
  rintro e w' ⟨b, rfl, rfl⟩
  cases b
  rotate_left
  · go_wp2
    go_ret
    exact ⟨rfl, Below.refl _ _⟩
  go_wp2_with fail
  refine (f7_any a n c S _ hn1 ha).mono ?_
  rintro e w' ⟨b, rfl, hs, q1, rfl⟩
  have hB1 := below_drewN' w.heap.size w q1
  have hz1 : w.heap.size ≤ (w.drewN q1).heap.size := Nat.le_refl _
  replace ha := ha.drewN q1
  generalize w.drewN q1 = w1 at *
  cases b
  · go_wp2
    go_ret
    exact ⟨rfl, hB1⟩
  replace hs : Hid (Pl.Sorted n S) := hs rfl
  cases a with
  | none =>
    obtain ⟨rfl, rfl⟩ := hnil rfl
    have hmk1 : ∀ w, (Instr.makeSlice 22 (.int .i64 1) (.int .i64 1)).run Try.prog w = .ok (.slice (some ⟨w.heap.size, 0, none⟩) 1 1) (w.alloc (.cells #[.string ByteArray.empty] 9)) := fun _ => by kernel_rfl
    go_wp2
    refine wp_loop_rounds 1 ?_; rw [rounds_succ]
    go_wp2
    refine wp_loop_rounds 1 ?_; rw [rounds_succ]
    go_wp2
    refine wp_loop_rounds 1 ?_; rw [rounds_succ]
    go_wp2_with fail
    have hP2 : StrRow (w1.alloc (.cells #[.string x] 9)) (some ⟨w1.heap.size, 0, none⟩) 1 (Pl.ins S 0 x) := StrRow.made (cs := [.string x]) (heap_alloc_new w1 _) (fun i hi => by
      obtain rfl : i = 0 := by omega
      rw [Pl.ins_at]; rfl)
    have hs2 : Hid (Pl.Sorted 1 (Pl.ins S 0 x)) := Pl.sorted_ins hs.out (Nat.le_refl _) (fun t ht => by omega) (fun h => by omega)
    have hm : ∀ s, Pl.memB 0 S s = false := fun s => Pl.memB_no fun i hi => by omega
    have k1 : Pl.memB 1 (Pl.ins S 0 x) q = (q.toList == x.toList) := by rw [Pl.memB_ins (n := 0) (Nat.le_refl _), hm]; rfl
    have k2 : Pl.memB 1 (Pl.ins S 0 x) ⟨#[42]⟩ = (x.toList == [42]) := by rw [Pl.memB_ins (n := 0) (Nat.le_refl _), hm, Pl.star_eq]; rfl
    have hB : Below w.heap.size w (w1.alloc (.cells #[.string x] 9)) := hB1.alloc hz1 _
    cases hqx : (q.toList == x.toList) <;> cases hxs : (x.toList == [42]) <;> rw [hqx] at k1 <;> rw [hxs] at k2
    all_goals
      go_wp2_with (first
        | (go_at_call_of 8 (Value.string q); refine (f8_any _ 0 0 S q _ (by omega) (.inl rfl)).mono ?_; rintro e w' ⟨rfl, rfl⟩)
        | (go_at_call_of 8 (Value.string ⟨#[42]⟩); refine (f8_any _ 0 0 S ⟨#[42]⟩ _ (by omega) (.inl rfl)).mono ?_; rintro e w' ⟨rfl, rfl⟩)
        | (go_at_call_of 9 (Value.slice (some ⟨w1.heap.size, 0, none⟩) 1 1); refine (f9_any _ 1 1 (Pl.ins S 0 x) q _ (by omega) (hP2) hs2).mono ?_; rintro e w' ⟨rfl, rfl⟩)
        | (go_at_call 9; refine (f9_any _ 0 0 S q _ (by omega) (.inl rfl) hs).mono ?_; rintro e w' ⟨rfl, rfl⟩))
      go_ret
      exact ⟨rfl, hB⟩
  | some ad =>
    have hmk := run_make_row' (P := Try.prog) 22 9 (.string ByteArray.empty) 16 Try.underlying22 Try.info9 rfl .i64 .i64 n (by omega) (by omega)
    have hmk1 := run_make_row' (P := Try.prog) 22 9 (.string ByteArray.empty) 16 Try.underlying22 Try.info9 rfl .i64 .i64 (n + 1) (by omega) (by omega)
    rw [show ((n + 1 : Nat) : Int) = (n : Int) + 1 from by omega] at hmk1
    obtain ⟨w2, hcp, hg2, hB2, hz2⟩ := copy_made (P := Try.prog) w1 22 9 3 Try.underlying22 Try.size9 (.string ByteArray.empty) n c ad (cellsOf n S) (cellsOf_length n S) ha.src (cellsOf_one n S)
    have hS2 : StrRow w2 (some ⟨w1.heap.size, 0, none⟩) n S := StrRow.made hg2 (fun i hi => cellsOf_get n S i hi)
    have hB : Below w.heap.size w w2 := hB1.trans (hB2.mono hz1)
    have hg : w1.heap.size < w2.heap.size := by omega
    have hz : w.heap.size ≤ w2.heap.size := hB.size
    have hC : Hid (∀ t, t < n → w2.cell? ⟨w1.heap.size, t, none⟩ = some (.string (S t))) := fun t ht => by
      rcases hS2 with h | ⟨b, o, e, hc⟩
      · omega
      · cases e; have := hc t ht; rwa [Nat.zero_add] at this
    clear hg2 hz2 hB2 hnil hz1 hB1 ha
    go_wp2
    clear hcp
    generalize w1.heap.size = g1 at *
    go_loop [8] (fun i => ∃ k : Nat, k ≤ n ∧ i = .int .i64 k ∧ Hid (∀ t, t < k → Op.bytesLess (S t).toList x.toList = true)) (fun i => n - (intOf i).toNat)
    case atStart => exact ⟨0, Nat.zero_le _, rfl, fun t ht => by omega⟩
    case round =>
      obtain ⟨k, hk, rfl, HL⟩ := hrel
      by_cases hlt : k < n
      · have cm := hC.out k hlt
        cases hy : Op.bytesLess (S k).toList x.toList
        · cases he : ((S k).toList == x.toList)
          · have hs2 : Hid (Pl.Sorted (n + 1) (Pl.ins S k x)) := Pl.sorted_ins hs.out hk HL.out (fun _ => ⟨hy, by simpa using he⟩)
            go_wp2
            clear hy he cm
            have hO0 := Owned.made w2 (.string ByteArray.empty) (n + 1) 9
            have hb0 : Below w2.heap.size w2 (w2.alloc (.cells (madeCells #[.string ByteArray.empty] (n + 1)) 9)) := (Below.refl _ _).alloc (Nat.le_refl _) _
            generalize w2.alloc (.cells (madeCells #[.string ByteArray.empty] (n + 1)) 9) = w3 at *
            go_loopw [11] (fun j wr => ∃ (t : Nat) (V : Nat → Value), t ≤ k ∧ j = .int .i64 t ∧ Owned wr w2.heap.size (n + 1) V ∧ Hid (∀ u, u < t → V u = .string (S u)) ∧ Below w2.heap.size w2 wr) (fun j _ => n - (intOf j).toNat)
            case atStart => exact ⟨0, _, Nat.zero_le _, rfl, hO0, fun u hu => by omega, hb0⟩
            case round =>
              clear hO0 hb0
              obtain ⟨t, V, ht, rfl, hO, HV, hb⟩ := hrel
              by_cases htn : t < k
              · have cr : wr.cell? ⟨g1, t, none⟩ = some (.string (S t)) := (hb.cell (by exact hg)).trans (hC.out t (by omega))
                have cw := hO.cell t (by omega)
                have fw := hO.free t (by omega)
                go_wp2
                go_roundw
                case rel => exact ⟨t + 1, upd V t (.string (S t)), by omega, by go_num, hO.set t (by omega) _, fun u hu => by
                  by_cases e : u = t
                  · subst e; exact upd_at _ _ _
                  · rw [upd_ne _ _ _ _ e]; exact HV.out u (by omega), hb.setCell (Nat.le_refl _) _⟩
                case measure => simp [intOf]; omega
              · have cw := hO.cell k (by omega)
                have fw := hO.free k (by omega)
                go_wp2
                have hO1 := hO.set k (by omega) (.string x)
                have hb1 : Below w2.heap.size w2 (wr.setCell ⟨w2.heap.size, k, none⟩ (.string x)) := hb.setCell (Nat.le_refl _) _
                have HV1 : Hid (∀ u, u < k + 1 → upd V k (.string x) u = .string (Pl.ins S k x u)) := fun u hu => by
                  by_cases e : u = k
                  · subst e; rw [upd_at, Pl.ins_at]
                  · rw [upd_ne _ _ _ _ e, Pl.ins_lt (by omega)]; exact HV.out u (by omega)
                clear cw fw hO hb HV
                generalize wr.setCell ⟨w2.heap.size, k, none⟩ (.string x) = w4 at *
                generalize upd V k (.string x) = V1 at *
                go_loopw [12] (fun j wr => ∃ (t : Nat) (V : Nat → Value), k ≤ t ∧ t ≤ n ∧ j = .int .i64 t ∧ Owned wr w2.heap.size (n + 1) V ∧ Hid (∀ u, u < t + 1 → V u = .string (Pl.ins S k x u)) ∧ Below w2.heap.size w2 wr) (fun j _ => n - (intOf j).toNat)
                case atStart => exact ⟨k, V1, Nat.le_refl _, hk, rfl, hO1, HV1, hb1⟩
                case round =>
                  clear hO1 hb1 HV1
                  obtain ⟨t, V, htk, htn, rfl, hO, HV, hb⟩ := hrel
                  by_cases htn : t < n
                  · have cr : wr.cell? ⟨g1, t, none⟩ = some (.string (S t)) := (hb.cell (by exact hg)).trans (hC.out t (by omega))
                    have cw := hO.cell (t + 1) (by omega)
                    have fw := hO.free (t + 1) (by omega)
                    go_wp2
                    go_roundw
                    case rel => exact ⟨t + 1, upd V (t + 1) (.string (S t)), by omega, by omega, by go_num, hO.set (t + 1) (by omega) _, fun u hu => by
                      by_cases e : u = t + 1
                      · subst e; rw [upd_at, Pl.ins_gt htk]
                      · rw [upd_ne _ _ _ _ e]; exact HV.out u (by omega), hb.setCell (Nat.le_refl _) _⟩
                    case measure => simp [intOf]; omega
                  · have hP : StrRow wr (some ⟨g1, 0, none⟩) n S := hS2.below hb (Nat.le_refl _)
                    have hP2 : StrRow wr (some ⟨w2.heap.size, 0, none⟩) (n + 1) (Pl.ins S k x) := hO.row (fun u hu => HV.out u (by omega))
                    have hBr : Below w.heap.size w wr := hB.trans (hb.mono hz)
                    have k1 : Pl.memB (n + 1) (Pl.ins S k x) q = (Pl.memB n S q || (q.toList == x.toList)) := Pl.memB_ins hk
                    have k2 : Pl.memB (n + 1) (Pl.ins S k x) ⟨#[42]⟩ = (Pl.memB n S ⟨#[42]⟩ || (x.toList == [42])) := by rw [Pl.memB_ins hk, Pl.star_eq]
                    clear hO hb HV
                    cases hA1 : Pl.memB n S q <;> cases hA2 : Pl.memB n S ⟨#[42]⟩ <;> cases hqx : (q.toList == x.toList) <;> cases hxs : (x.toList == [42]) <;> rw [hqx, hA1] at k1 <;> rw [hxs, hA2] at k2 <;>
                      simp only [Bool.or_true, Bool.or_false] at k1 k2
                    all_goals
                      go_wp2_with (first
                        | (go_at_call_of 8 (Value.string q); refine (f8_any _ n n S q _ (by omega) (hP)).mono ?_; rintro e w' ⟨rfl, rfl⟩)
                        | (go_at_call_of 8 (Value.string ⟨#[42]⟩); refine (f8_any _ n n S ⟨#[42]⟩ _ (by omega) (hP)).mono ?_; rintro e w' ⟨rfl, rfl⟩)
                        | (go_at_call_of 9 (Value.slice (some ⟨g1, 0, none⟩) n n); refine (f9_any _ n n S q _ (by omega) (hP) hs).mono ?_; rintro e w' ⟨rfl, rfl⟩)
                        | (go_at_call 9; refine (f9_any _ (n + 1) (n + 1) (Pl.ins S k x) q _ (by omega) (hP2) hs2).mono ?_; rintro e w' ⟨rfl, rfl⟩))
                      go_ret
                      exact ⟨rfl, hBr⟩
          · go_wp2
            have hO0 := Owned.made w2 (.string ByteArray.empty) n 9
            have hb0 : Below w2.heap.size w2 (w2.alloc (.cells (madeCells #[.string ByteArray.empty] n) 9)) := (Below.refl _ _).alloc (Nat.le_refl _) _
            generalize w2.alloc (.cells (madeCells #[.string ByteArray.empty] n) 9) = w3 at *
            go_loopw [10] (fun j wr => ∃ (t : Nat) (V : Nat → Value), t ≤ n ∧ j = .int .i64 t ∧ Owned wr w2.heap.size n V ∧ Hid (∀ u, u < t → V u = .string (S u)) ∧ Below w2.heap.size w2 wr) (fun j _ => n - (intOf j).toNat)
            case atStart => exact ⟨0, _, Nat.zero_le _, rfl, hO0, fun u hu => by omega, hb0⟩
            case round =>
              clear hO0 hb0
              obtain ⟨t, V, ht, rfl, hO, HV, hb⟩ := hrel
              by_cases htn : t < n
              · have cr : wr.cell? ⟨g1, t, none⟩ = some (.string (S t)) := (hb.cell (by exact hg)).trans (hC.out t htn)
                have cw := hO.cell t htn
                have fw := hO.free t htn
                clear cm
                go_wp2
                go_roundw
                case rel => exact ⟨t + 1, upd V t (.string (S t)), by omega, by go_num, hO.set t htn _, fun u hu => by
                  by_cases e : u = t
                  · subst e; exact upd_at _ _ _
                  · rw [upd_ne _ _ _ _ e]; exact HV.out u (by omega), hb.setCell (Nat.le_refl _) _⟩
                case measure => simp [intOf]; omega
              · have hP : StrRow wr (some ⟨g1, 0, none⟩) n S := hS2.below hb (Nat.le_refl _)
                have hP2 : StrRow wr (some ⟨w2.heap.size, 0, none⟩) n S := hO.row (fun u hu => HV.out u (by omega))
                have hBr : Below w.heap.size w wr := hB.trans (hb.mono hz)
                have hyes : Pl.memB n S x = true := Pl.memB_yes k hlt he
                have hx1 : (q.toList == x.toList) = true → Pl.memB n S q = true := fun h => by
                  rw [beq_iff_eq] at h
                  exact Pl.memB_yes k hlt (by rw [h]; exact he)
                have hx2 : (x.toList == [42]) = true → Pl.memB n S ⟨#[42]⟩ = true := fun h => by
                  rw [beq_iff_eq] at h
                  exact Pl.memB_yes k hlt (by rw [Pl.star_list, ← h]; exact he)
                clear hyes hO hb HV cm he hy
                cases hA1 : Pl.memB n S q <;> cases hA2 : Pl.memB n S ⟨#[42]⟩ <;> cases hqx : (q.toList == x.toList) <;> cases hxs : (x.toList == [42]) <;> rw [hqx, hA1] at hx1 <;> rw [hxs, hA2] at hx2 <;>
                  first | (have h := hx1 rfl; cases h; done) | (have h := hx2 rfl; cases h; done) | clear hx1 hx2
                all_goals
                  go_wp2_with (first
                    | (go_at_call_of 8 (Value.string q); refine (f8_any _ n n S q _ (by omega) (hP)).mono ?_; rintro e w' ⟨rfl, rfl⟩)
                    | (go_at_call_of 8 (Value.string ⟨#[42]⟩); refine (f8_any _ n n S ⟨#[42]⟩ _ (by omega) (hP)).mono ?_; rintro e w' ⟨rfl, rfl⟩)
                    | (go_at_call_of 9 (Value.slice (some ⟨w2.heap.size, 0, none⟩) n n); refine (f9_any _ n n S q _ (by omega) (hP2) hs).mono ?_; rintro e w' ⟨rfl, rfl⟩)
                    | (go_at_call 9; refine (f9_any _ n n S q _ (by omega) (hP) hs).mono ?_; rintro e w' ⟨rfl, rfl⟩))
                  go_ret
                  exact ⟨rfl, hBr⟩
        · go_wp2
          go_round
          case rel => exact ⟨k + 1, by omega, by go_num, fun t ht => by
            by_cases e : t = k
            · subst e; exact hy
            · exact HL.out t (by omega)⟩
          case measure => simp [intOf]; omega
      · have hs2 : Hid (Pl.Sorted (n + 1) (Pl.ins S k x)) := Pl.sorted_ins hs.out hk HL.out (fun h => absurd h hlt)
        go_wp2
        have hO0 := Owned.made w2 (.string ByteArray.empty) (n + 1) 9
        have hb0 : Below w2.heap.size w2 (w2.alloc (.cells (madeCells #[.string ByteArray.empty] (n + 1)) 9)) := (Below.refl _ _).alloc (Nat.le_refl _) _
        generalize w2.alloc (.cells (madeCells #[.string ByteArray.empty] (n + 1)) 9) = w3 at *
        go_loopw [11] (fun j wr => ∃ (t : Nat) (V : Nat → Value), t ≤ k ∧ j = .int .i64 t ∧ Owned wr w2.heap.size (n + 1) V ∧ Hid (∀ u, u < t → V u = .string (S u)) ∧ Below w2.heap.size w2 wr) (fun j _ => n - (intOf j).toNat)
        case atStart => exact ⟨0, _, Nat.zero_le _, rfl, hO0, fun u hu => by omega, hb0⟩
        case round =>
          clear hO0 hb0
          obtain ⟨t, V, ht, rfl, hO, HV, hb⟩ := hrel
          by_cases htn : t < k
          · have cr : wr.cell? ⟨g1, t, none⟩ = some (.string (S t)) := (hb.cell (by exact hg)).trans (hC.out t (by omega))
            have cw := hO.cell t (by omega)
            have fw := hO.free t (by omega)
            go_wp2
            go_roundw
            case rel => exact ⟨t + 1, upd V t (.string (S t)), by omega, by go_num, hO.set t (by omega) _, fun u hu => by
              by_cases e : u = t
              · subst e; exact upd_at _ _ _
              · rw [upd_ne _ _ _ _ e]; exact HV.out u (by omega), hb.setCell (Nat.le_refl _) _⟩
            case measure => simp [intOf]; omega
          · have cw := hO.cell k (by omega)
            have fw := hO.free k (by omega)
            go_wp2
            have hO1 := hO.set k (by omega) (.string x)
            have hb1 : Below w2.heap.size w2 (wr.setCell ⟨w2.heap.size, k, none⟩ (.string x)) := hb.setCell (Nat.le_refl _) _
            have HV1 : Hid (∀ u, u < k + 1 → upd V k (.string x) u = .string (Pl.ins S k x u)) := fun u hu => by
              by_cases e : u = k
              · subst e; rw [upd_at, Pl.ins_at]
              · rw [upd_ne _ _ _ _ e, Pl.ins_lt (by omega)]; exact HV.out u (by omega)
            clear cw fw hO hb HV
            generalize wr.setCell ⟨w2.heap.size, k, none⟩ (.string x) = w4 at *
            generalize upd V k (.string x) = V1 at *
            go_loopw [12] (fun j wr => ∃ (t : Nat) (V : Nat → Value), k ≤ t ∧ t ≤ n ∧ j = .int .i64 t ∧ Owned wr w2.heap.size (n + 1) V ∧ Hid (∀ u, u < t + 1 → V u = .string (Pl.ins S k x u)) ∧ Below w2.heap.size w2 wr) (fun j _ => n - (intOf j).toNat)
            case atStart => exact ⟨k, V1, Nat.le_refl _, hk, rfl, hO1, HV1, hb1⟩
            case round =>
              clear hO1 hb1 HV1
              obtain ⟨t, V, htk, htn, rfl, hO, HV, hb⟩ := hrel
              by_cases htn : t < n
              · exfalso; omega
              · have hP : StrRow wr (some ⟨g1, 0, none⟩) n S := hS2.below hb (Nat.le_refl _)
                have hP2 : StrRow wr (some ⟨w2.heap.size, 0, none⟩) (n + 1) (Pl.ins S k x) := hO.row (fun u hu => HV.out u (by omega))
                have hBr : Below w.heap.size w wr := hB.trans (hb.mono hz)
                have k1 : Pl.memB (n + 1) (Pl.ins S k x) q = (Pl.memB n S q || (q.toList == x.toList)) := Pl.memB_ins hk
                have k2 : Pl.memB (n + 1) (Pl.ins S k x) ⟨#[42]⟩ = (Pl.memB n S ⟨#[42]⟩ || (x.toList == [42])) := by rw [Pl.memB_ins hk, Pl.star_eq]
                clear hO hb HV
                cases hA1 : Pl.memB n S q <;> cases hA2 : Pl.memB n S ⟨#[42]⟩ <;> cases hqx : (q.toList == x.toList) <;> cases hxs : (x.toList == [42]) <;> rw [hqx, hA1] at k1 <;> rw [hxs, hA2] at k2 <;>
                  simp only [Bool.or_true, Bool.or_false] at k1 k2
                all_goals
                  go_wp2_with (first
                    | (go_at_call_of 8 (Value.string q); refine (f8_any _ n n S q _ (by omega) (hP)).mono ?_; rintro e w' ⟨rfl, rfl⟩)
                    | (go_at_call_of 8 (Value.string ⟨#[42]⟩); refine (f8_any _ n n S ⟨#[42]⟩ _ (by omega) (hP)).mono ?_; rintro e w' ⟨rfl, rfl⟩)
                    | (go_at_call_of 9 (Value.slice (some ⟨g1, 0, none⟩) n n); refine (f9_any _ n n S q _ (by omega) (hP) hs).mono ?_; rintro e w' ⟨rfl, rfl⟩)
                    | (go_at_call 9; refine (f9_any _ (n + 1) (n + 1) (Pl.ins S k x) q _ (by omega) (hP2) hs2).mono ?_; rintro e w' ⟨rfl, rfl⟩))
                  go_ret
                  exact ⟨rfl, hBr⟩

end Go.Proofs.Qxb6628544a
