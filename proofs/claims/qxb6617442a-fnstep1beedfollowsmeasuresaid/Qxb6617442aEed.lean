/-
  Seat b6617442a: the walk of 'FnStep1bEedFollowsMeasure' (function 5).
-/
import Derived.Test.Qxb6617442aStep
namespace Go.Proofs.Qxb6617442a
open Go.ChangeShapes Go.WideShapes Go.ChangeAt Go.RowKit

def ee : List Int := [101, 101]

theorem concat_eed (zs : List Int) (w : World) (ao : Option Addr) (len cap : Nat) (h : SrcAt w ao len cap zs) (hl : len ≤ 4096) :
    Calls Try.prog 15 #[.slice ao len cap, .string ⟨#[101, 101, 100]⟩] w fun e w' => e = .returned (.slice (some ⟨w.heap.size, 0, none⟩) (len + 3) (len + 3)) ∧
      RowAt w' w.heap.size 0 (len + 3) (zs ++ eed) ∧ Below w.heap.size w w' :=
  concat15 zs w ao len cap h hl ⟨#[101, 101, 100]⟩ (show 3 ≤ 4096 by omega)

theorem concat_ee (zs : List Int) (w : World) (ao : Option Addr) (len cap : Nat) (h : SrcAt w ao len cap zs) (hl : len ≤ 4096) :
    Calls Try.prog 15 #[.slice ao len cap, .string ⟨#[101, 101]⟩] w fun e w' => e = .returned (.slice (some ⟨w.heap.size, 0, none⟩) (len + 2) (len + 2)) ∧
      RowAt w' w.heap.size 0 (len + 2) (zs ++ ee) ∧ Below w.heap.size w w' :=
  concat15 zs w ao len cap h hl ⟨#[101, 101]⟩ (show 2 ≤ 4096 by omega)

theorem take_ee (zs : List Int) (k : Nat) (h : zs.length = k) : (zs ++ eed).take (k + 2) = zs ++ ee := by
  rw [← h, List.take_length_add_append]
  rfl

set_option maxHeartbeats 800000 in
theorem eed_no (w : World) (a : Option Addr) (len cap : Nat) (hl : len ≤ 9223372036854775807) (h : 4096 < len) :
    Calls Try.prog 5 #[.slice a len cap] w fun e w' => e = .returned (.bool true) ∧ Below w.heap.size w w' := by
  by_cases h1 : len ≤ 1048576
  all_goals
    go_enter Try.func5, Try.ntmps5
    go_wp2
    go_ret
    exact ⟨rfl, Below.refl _ _⟩

set_option maxHeartbeats 1600000 in
theorem eed_yes (w : World) (ao : Option Addr) (len cap : Nat) (zs : List Int) (hs : SrcAt w ao len cap zs) (hl : len ≤ 4096) :
    Calls Try.prog 5 #[.slice ao len cap] w fun e w' => e = .returned (.bool true) ∧ Below w.heap.size w w' := by
  have HS : Hid (SrcAt w ao len cap zs) := hs
  have HZ : Hid (zs.length = len) := hs.1
  have HM : Hid (meas (zs ++ eed) len = meas zs len) := meas_append zs eed len (by rw [hs.1]; exact Nat.le_refl _)
  clear hs
  go_enter Try.func5, Try.ntmps5
  go_wp2_with (go_at_call 14; go_in)
  refine (concat_eed zs w ao len cap HS.out hl).mono ?_
  rintro e w1 ⟨rfl, hr1, hb1⟩
  have HR1 : Hid _ := hr1
  clear hr1
  go_wp2_with fail
  refine (meas7 (zs ++ eed) w1 _ (len + 3) (len + 3) (RowAt.src HR1.out) (by omega) len (by omega)).mono ?_
  rintro e w2 ⟨rfl, hb2⟩
  rw [HM.out]
  have hb12 : Below w.heap.size w w2 := hb1.trans (hb2.mono hb1.size)
  have HR2 : Hid (RowAt w2 w.heap.size 0 (len + 3) (zs ++ eed)) := RowAt.below HR1.out hb2 (Nat.le_refl _)
  clear HR1 hb1 hb2
  go_wp2_with fail
  refine (step16 zs w2 w.heap.size 0 len (len + 3) (len + 3) HR2.out HZ.out rfl (by omega) (Nat.le_refl _)).mono ?_
  rintro e w3 ⟨rfl, hb3⟩
  have hb13 : Below w.heap.size w w3 := hb12.trans (hb3.mono hb12.size)
  have HR3 : Hid (RowAt w3 w.heap.size 0 (len + 3) (zs ++ eed)) := RowAt.below HR2.out hb3 (Nat.le_refl _)
  clear HR2 hb12 hb3
  by_cases hpos : 0 < meas zs len
  · rw [if_pos hpos]
    go_wp2_with fail
    refine (model8 zs w3 ao len cap (HS.out.below hb13 (Nat.le_refl _)) (by omega) len (Nat.le_refl _)).mono ?_
    rintro e w4 ⟨rfl, rfl⟩
    go_wp2_with fail
    refine (concat_ee zs w3 ao len cap (HS.out.below hb13 (Nat.le_refl _)) hl).mono ?_
    rintro e w4 ⟨rfl, hr4, hb4⟩
    have HR4 : Hid _ := hr4
    clear hr4
    have HR5 : Hid (RowAt w4 w.heap.size 0 (len + 2) (zs ++ ee)) := by
      have := row_take (RowAt.below HR3.out hb4 (Nat.le_refl _)) (len + 2) (by omega)
      rw [take_ee zs len HZ.out] at this
      exact this
    go_wp2_with fail
    refine (equal17 (zs ++ ee) w4 _ 0 (len + 3) _ 0 (len + 2) (len + 2) HR5.out HR4.out (by omega)).mono ?_
    rintro e w5 ⟨rfl, m, rfl⟩
    go_wp2_with fail
    go_ret
    exact ⟨rfl, below_drewN (hb13.trans (hb4.mono hb13.size)) m⟩
  · rw [if_neg hpos]
    go_wp2_with fail
    refine (model8 zs w3 ao len cap (HS.out.below hb13 (Nat.le_refl _)) (by omega) len (Nat.le_refl _)).mono ?_
    rintro e w4 ⟨rfl, rfl⟩
    go_wp2_with fail
    refine (concat_eed zs w3 ao len cap (HS.out.below hb13 (Nat.le_refl _)) hl).mono ?_
    rintro e w4 ⟨rfl, hr4, hb4⟩
    have HR4 : Hid _ := hr4
    clear hr4
    have HR5 : Hid (RowAt w4 w.heap.size 0 (len + 3) (zs ++ eed)) := RowAt.below HR3.out hb4 (Nat.le_refl _)
    go_wp2_with fail
    refine (equal17 (zs ++ eed) w4 _ 0 (len + 3) _ 0 (len + 3) (len + 3) HR5.out HR4.out (by omega)).mono ?_
    rintro e w5 ⟨rfl, m, rfl⟩
    go_wp2_with fail
    go_ret
    exact ⟨rfl, below_drewN (hb13.trans (hb4.mono hb13.size)) m⟩
end Go.Proofs.Qxb6617442a
