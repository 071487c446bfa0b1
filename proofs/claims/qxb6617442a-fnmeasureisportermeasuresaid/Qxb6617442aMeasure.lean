/-
  Seat b6617442a: the walk of 'FnMeasureIsPorterMeasure' (function 3).
-/
import Derived.Test.Qxb6617442aWalks
namespace Go.Proofs.Qxb6617442a
open Go.ChangeShapes Go.WideShapes Go.ChangeAt Go.RowKit

set_option maxHeartbeats 800000 in
theorem measure_no (w : World) (a : Option Addr) (len cap : Nat) (n : Int) (hl : len ≤ 9223372036854775807) (h : ¬ (len ≤ 4096 ∧ 0 ≤ n ∧ n ≤ len)) :
    Calls Try.prog 3 #[.slice a len cap, .int .i64 n] w fun e w' => e = .returned (.bool true) ∧ Below w.heap.size w w' := by
  rcases (show 1048576 < len ∨ (len ≤ 1048576 ∧ 4096 < len) ∨ (len ≤ 4096 ∧ n < 0) ∨ (len ≤ 4096 ∧ 0 ≤ n ∧ len < n) by omega) with h1 | ⟨h1, h2⟩ | ⟨h1, h2⟩ | ⟨h1, h2, h3⟩
  all_goals
    clear h
    go_enter Try.func3, Try.ntmps3
    go_wp2
    go_ret
    exact ⟨rfl, Below.refl _ _⟩

set_option maxHeartbeats 800000 in
theorem measure_yes (w : World) (a : Option Addr) (len cap : Nat) (zs : List Int) (n : Nat) (hs : SrcAt w a len cap zs) (hl : len ≤ 4096) (hn : n ≤ len) :
    Calls Try.prog 3 #[.slice a len cap, .int .i64 n] w fun e w' => e = .returned (.bool true) ∧ Below w.heap.size w w' := by
  have hnn := run_neq_nil
  cases a with
  | none =>
    obtain ⟨rfl, rfl⟩ := hs.2.1 rfl
    go_enter Try.func3, Try.ntmps3
    go_wp2_with (go_at_call 6; go_in)
    refine (meas7 zs w none 0 0 hs (by omega) n hn).mono ?_
    rintro e w1 ⟨rfl, hb1⟩
    go_wp2_with fail
    refine (model8 zs w1 none 0 0 (hs.below hb1 (Nat.le_refl _)) (by omega) n hn).mono ?_
    rintro e w2 ⟨rfl, rfl⟩
    go_wp2_with fail
    go_ret
    exact ⟨by simp, hb1⟩
  | some x =>
    obtain ⟨W0, W1, hm, hcp, hr1, hb1⟩ := copied_src w x len cap zs hs (by omega)
    have HR : Hid _ := hr1
    have HB : Hid _ := hb1
    clear hs hr1 hb1
    go_enter Try.func3, Try.ntmps3
    go_wp2_with (go_at_call 6; go_in)
    refine (meas7 zs W1 _ len len HR.out (by omega) n hn).mono ?_
    rintro e w2 ⟨rfl, hb2⟩
    go_wp2_with fail
    refine (model8 zs w2 _ len len (SrcAt.below HR.out hb2 (Nat.le_refl _)) (by omega) n hn).mono ?_
    rintro e w3 ⟨rfl, rfl⟩
    go_wp2_with fail
    go_ret
    exact ⟨by simp, HB.out.trans (hb2.mono HB.out.size)⟩
end Go.Proofs.Qxb6617442a
