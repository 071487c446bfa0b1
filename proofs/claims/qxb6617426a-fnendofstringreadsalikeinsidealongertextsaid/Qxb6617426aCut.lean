/-
  Seat b6617426a: the walk of 'FnEndOfStringIsFirstUnescapedQuoteAndAnyCutAgrees' (function 3).
-/
import Derived.Test.Qxb6617426aWalks
import Derived.Laws.Cover3
namespace Go.Proofs.Qxb6617426a
open Go.ChangeShapes Go.WideShapes Go.ChangeAt Go.RowKit

theorem run_neq_nil (w : World) (a : Option Addr) (l c : Nat) : (binOp .neq 22 (.slice a l c) (.slice none 0 0)).run Try.prog w = .ok (.bool (!a.isNone)) w :=
  run_neq_slice_nil w 22 5 a l c Try.underlying22

theorem row_take {w : World} {b off n : Nat} {zs : List Int} (h : RowAt w b off n zs) (c : Nat) (hc : c ≤ n) : RowAt w b off c (zs.take c) := by
  refine ⟨by rw [List.length_take, h.1]; omega, fun j hj => ?_⟩
  rw [h.2 j (by omega)]
  simp [List.getD_eq_getElem?_getD, hj]

set_option maxHeartbeats 800000 in
theorem cut_no (w : World) (a : Option Addr) (n cap : Nat) (s c : Int) (hn : n ≤ 9223372036854775807) (hs1 : -9223372036854775808 ≤ s) (hs2 : s ≤ 9223372036854775807)
    (h : ¬ (n ≤ 1048576 ∧ 0 ≤ s ∧ s < n ∧ s < c ∧ c ≤ n)) :
    Calls Try.prog 3 #[.slice a n cap, .int .i64 s, .int .i64 c] w fun e w' => e = .returned (.bool true) ∧ Below w.heap.size w w' := by
  rcases (show 1048576 < n ∨ (n ≤ 1048576 ∧ s < 0) ∨ (n ≤ 1048576 ∧ 0 ≤ s ∧ n ≤ s) ∨ (n ≤ 1048576 ∧ 0 ≤ s ∧ s < n ∧ c ≤ s) ∨ (n ≤ 1048576 ∧ 0 ≤ s ∧ s < n ∧ s < c ∧ n < c) by omega) with h1 | ⟨h1, h2⟩ | ⟨h1, h2, h3⟩ | ⟨h1, h2, h3, h4⟩ | ⟨h1, h2, h3, h4, h5⟩
  all_goals
    clear h
    go_enter Try.func3, Try.ntmps3
    go_wp2
    go_ret
    exact ⟨rfl, Below.refl _ _⟩

set_option maxHeartbeats 800000 in
theorem cut_yes (w : World) (b off n cap : Nat) (zs : List Int) (s c : Nat) (hr : RowAt w b off n zs) (hn : n ≤ 1048576) (hs : s < n) (hsc : s < c) (hc : c ≤ n) :
    Calls Try.prog 3 #[.slice (some ⟨b, off, none⟩) n cap, .int .i64 s, .int .i64 c] w fun e w' => e = .returned (.bool true) ∧ Below w.heap.size w w' := by
  obtain ⟨W0, W1, hm, hcp, hr1, hb1⟩ := copied w b off n cap zs hr hn
  have hnn := run_neq_nil
  have HR : Hid _ := hr1
  have HB : Hid _ := hb1
  clear hr hr1 hb1
  go_enter Try.func3, Try.ntmps3
  go_wp2_with (go_at_call 5; go_in)
  refine (clo6 W1 _ 0 n n zs s HR.out hs hn).mono ?_
  rintro e w' ⟨rfl, rfl⟩
  go_wp2_with fail
  refine (eos7 W1 _ 0 n n zs s HR.out hs hn).mono ?_
  rintro e w' ⟨rfl, rfl⟩
  have HC : Hid _ := eos_cut zs s c hsc
  have hhi := eos_hi zs s (by rw [HR.out.1]; exact hs)
  rw [HR.out.1] at hhi
  by_cases hm2 : eos zs s < c
  · go_wp2_with fail
    refine (eos7 W1 _ 0 c n (zs.take c) s (row_take HR.out c hc) hsc (by omega)).mono ?_
    rintro e w' ⟨rfl, rfl⟩
    rw [HC.out, Nat.min_eq_left (by omega)]
    go_wp2_with (go_at_call 8; go_in)
    go_ret
    exact ⟨by simp, HB.out⟩
  · go_wp2_with fail
    refine (eos7 W1 _ 0 c n (zs.take c) s (row_take HR.out c hc) hsc (by omega)).mono ?_
    rintro e w' ⟨rfl, rfl⟩
    rw [HC.out, Nat.min_eq_right (by omega)]
    go_wp2_with (go_at_call 8; go_in)
    go_ret
    exact ⟨by simp, HB.out⟩
end Go.Proofs.Qxb6617426a
