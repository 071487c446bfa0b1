/-
  Seat b6617986a: the walks of 'zzBytes_FnStringKeyAgreesWithPlainBool' (4), 'zzIsDigit' (7) and of the law 'FnStringKeyAgreesWithPlainBool' (3).
-/
import Derived.Test.Qxb6617986aWalks
namespace Go.Proofs.Qxb6617986a
open Go.ChangeShapes Go.WideShapes Go.ChangeAt Go.RowKit

set_option maxHeartbeats 400000 in
theorem digit_yes (w : World) (z : Int) (h1 : 48 ≤ z) (h2 : z ≤ 57) : Calls Try.prog 7 #[.int .u8 z] w fun e w' => e = .returned (.bool true) ∧ w = w' := by
  go_enter Try.func7, Try.ntmps7
  go_wp2_with fail
  go_ret
  exact ⟨by simp, rfl⟩

set_option maxHeartbeats 400000 in
theorem digit_no (w : World) (z : Int) (h : z < 48 ∨ 57 < z) : Calls Try.prog 7 #[.int .u8 z] w fun e w' => e = .returned (.bool false) ∧ w = w' := by
  rcases h with h | h
  · have h1 : decide ((48 : Int) ≤ z) = false := by simp; omega
    go_enter Try.func7, Try.ntmps7
    go_wp2_with fail
    go_ret
    exact ⟨rfl, rfl⟩
  · have h1 : (48 : Int) ≤ z := by omega
    go_enter Try.func7, Try.ntmps7
    go_wp2_with fail
    go_ret
    exact ⟨by simp; omega, rfl⟩

set_option maxHeartbeats 400000 in
theorem bytes4_yes (w : World) (a0 a1 : Option Addr) (n0 n1 c0 c1 : Nat) (h : n0 + n1 ≤ 1048576) :
    Calls Try.prog 4 #[.slice a0 n0 c0, .slice a1 n1 c1] w fun e w' => e = .returned (.bool true) ∧ w = w' := by
  go_enter Try.func4, Try.ntmps4
  go_wp2_with fail
  go_ret
  exact ⟨rfl, rfl⟩

set_option maxHeartbeats 400000 in
theorem bytes4_no (w : World) (a0 a1 : Option Addr) (n0 n1 c0 c1 : Nat) (h0 : n0 ≤ 9223372036854775807) (h1 : n1 ≤ 9223372036854775807) (h : 1048576 < n0 + n1) :
    Calls Try.prog 4 #[.slice a0 n0 c0, .slice a1 n1 c1] w fun e w' => e = .returned (.bool false) ∧ w = w' := by
  rcases (show 1048576 < n0 ∨ (n0 ≤ 1048576 ∧ 1048576 < n1) ∨ (n0 ≤ 1048576 ∧ n1 ≤ 1048576) by omega) with q | ⟨q, q'⟩ | ⟨q, q'⟩
  all_goals
    go_enter Try.func4, Try.ntmps4
    go_wp2_with fail
    go_ret
    exact ⟨rfl, rfl⟩

set_option maxHeartbeats 800000 in
theorem key_no (w : World) (a0 a1 : Option Addr) (n0 n1 c0 c1 : Nat) (h0 : n0 ≤ 9223372036854775807) (h1 : n1 ≤ 9223372036854775807) (h : ¬ (n0 + n1 ≤ 1048576 ∧ 0 < n0)) :
    Calls Try.prog 3 #[.slice a0 n0 c0, .slice a1 n1 c1] w fun e w' => e = .returned (.bool true) ∧ Below w.heap.size w w' := by
  by_cases hb : n0 + n1 ≤ 1048576
  · have hz : n0 = 0 := by omega
    subst hz
    go_enter Try.func3, Try.ntmps3
    go_wp2_with fail
    refine (bytes4_yes w a0 a1 0 n1 c0 c1 hb).mono ?_
    rintro e w' ⟨rfl, rfl⟩
    go_wp2_with fail
    go_ret
    exact ⟨rfl, Below.refl _ _⟩
  · go_enter Try.func3, Try.ntmps3
    go_wp2_with fail
    refine (bytes4_no w a0 a1 n0 n1 c0 c1 h0 h1 (by omega)).mono ?_
    rintro e w' ⟨rfl, rfl⟩
    go_wp2_with fail
    go_ret
    exact ⟨rfl, Below.refl _ _⟩

/-- 'long := make([]byte, 0, 1+len(tail))'. -/
theorem made (w : World) (n : Nat) (h : n ≤ 1048576) :
    ∃ W0, (Instr.makeSlice 22 (.int .i64 0) (.int .i64 (1 + (n : Int)))).run Try.prog w = .ok (.slice (some ⟨w.heap.size, 0, none⟩) 0 (1 + n)) W0 ∧
      W0.ownsRow w.heap.size 5 1 (.slice (some ⟨w.heap.size, 0, none⟩) 0 (1 + n)) 0 [] ∧ Below w.heap.size w W0 := by
  obtain ⟨i0, hi, hz0, hz1, hz2⟩ := info_parts info5
  obtain ⟨w', hr, ho, hg⟩ := run_make_own (P := Try.prog) w w.heap.size 22 5 i0 (.int .u8 0) 1 Try.underlying22 hi hz0 hz1 .i64 .i64 (1 + n) (by rw [hz2]; omega) (by unfold maxLen; omega) (Nat.le_refl _)
  refine ⟨w', ?_, ho, (Below.refl _ _).grown hg (Nat.le_refl _) (by intro k hk; cases hk)⟩
  rw [← hr]
  simp

theorem one_news (wr : World) (v : Value) : ∀ j u, [v][j]? = some u → (wr.alloc (.cells #[v] 5)).cell? ((⟨wr.heap.size, 0, none⟩ : Addr).add j) = some u := by
  intro j u hj
  match j, hj with
  | 0, hj =>
    simp at hj
    subst hj
    rw [Addr.add_lit, World.cell?_alloc_at _ _ _ _ rfl]
    rfl

/-- what the walk is told: the key's copy in W1, its first byte, the tail; the new slice's make. -/
structure Setting (w W0 W1 W2 : World) (b off nk ck : Nat) (at_ : Option Addr) (nt ct : Nat) (l t : List UInt8) : Prop where
  mk1 : (Instr.makeSlice 22 (.int .i64 (nk : Int)) (.int .i64 (nk : Int))).run Try.prog w = .ok (.slice (some ⟨w.heap.size, 0, none⟩) nk nk) W0
  cp : (Builtin.copy_ #[22, 22] 3 #[.slice (some ⟨w.heap.size, 0, none⟩) nk nk, .slice (some ⟨b, off, none⟩) nk ck]).run Try.prog W0 = .ok (.int .i64 (nk : Int)) W1
  row : RowAt W1 w.heap.size 0 nk (ints l)
  bel : Below w.heap.size w W1
  mk2 : (Instr.makeSlice 22 (.int .i64 0) (.int .i64 (1 + (nt : Int)))).run Try.prog W1 = .ok (.slice (some ⟨W1.heap.size, 0, none⟩) 0 (1 + nt)) W2
  own : W2.ownsRow W1.heap.size 5 1 (.slice (some ⟨W1.heap.size, 0, none⟩) 0 (1 + nt)) 0 []
  bel2 : Below W1.heap.size W1 W2
  src : SrcAt w at_ nt ct (ints t)
  pos : 0 < nk
  sum : nk + nt ≤ 1048576

theorem setting (w : World) (b off nk ck : Nat) (at_ : Option Addr) (nt ct : Nat) (l t : List UInt8) (hr : RowAt w b off nk (ints l)) (hs : SrcAt w at_ nt ct (ints t)) (h0 : 0 < nk) (h : nk + nt ≤ 1048576) :
    ∃ W0 W1 W2, Setting w W0 W1 W2 b off nk ck at_ nt ct l t := by
  obtain ⟨W0, W1, hm, hcp, hr1, hb1⟩ := copied w b off nk ck (ints l) hr (by omega)
  obtain ⟨W2, hm2, ho2, hb2⟩ := made W1 nt (by omega)
  exact ⟨W0, W1, W2, hm, hcp, hr1, hb1, hm2, ho2, hb2, hs, h0, h⟩

theorem Setting.cell {w W0 W1 W2 : World} {b off nk ck : Nat} {at_ : Option Addr} {nt ct : Nat} {l t : List UInt8} (S : Setting w W0 W1 W2 b off nk ck at_ nt ct l t) : W1.cell? ⟨w.heap.size, 0, none⟩ = some (.int .u8 ((l.getD 0 0).toNat : Int)) := by
  have := S.row.2 0 S.pos
  rw [ints_at] at this
  exact this

set_option maxHeartbeats 4000000 in
theorem short_mark (w W0 W1 W2 : World) (b off nk ck : Nat) (at_ : Option Addr) (nt ct : Nat) (l t : List UInt8) (S : Setting w W0 W1 W2 b off nk ck at_ nt ct l t)
    (hk : mark ((l.getD 0 0).toNat : Int) = true) (hsk : skey l = false) (hb : isB l = false) (hsh : nk ≤ 5 ∨ nt ≤ 4) :
    Calls Try.prog 3 #[.slice (some ⟨b, off, none⟩) nk ck, .slice at_ nt ct] w fun e w' => e = .returned (.bool true) ∧ Below w.heap.size w w' := by
  have hm := S.mk1
  have hcp := S.cp
  have hm2 := S.mk2
  have hpos := S.pos
  have hsum := S.sum
  have hnn := run_neq_nil
  have hcell := S.cell
  have SS : Hid (Setting w W0 W1 W2 b off nk ck at_ nt ct l t) := S
  have HSK : Hid (skey l = false) := hsk
  have HB : Hid (isB l = false) := hb
  clear S hsk hb
  generalize ((l.getD 0 0).toNat : Int) = z at hcell hk
  rcases (show (48 ≤ z ∧ z ≤ 57) ∨ z = 43 ∨ z = 45 ∨ z = 46 ∨ z = 126 ∨ z = 60 by simp [mark] at hk; omega) with ⟨z1, z2⟩ | rfl | rfl | rfl | rfl | rfl
  · clear hk
    rcases (show nk ≤ 5 ∨ (5 < nk ∧ nt ≤ 4) by omega) with q | ⟨q, q'⟩
    all_goals
      clear hsh
      go_enter Try.func3, Try.ntmps3
      go_wp2_with fail
      refine (bytes4_yes w _ _ nk nt ck ct hsum).mono ?_
      rintro e w' ⟨rfl, rfl⟩
      go_wp2_with fail
      refine (key5 W1 _ 0 nk nk l SS.out.row hpos).mono ?_
      rintro e w' ⟨rfl, rfl⟩
      rw [HSK.out]
      go_wp2_with fail
      refine (bool6 W1 _ 0 nk nk l SS.out.row).mono ?_
      rintro e w' ⟨v, rfl, rfl⟩
      rw [HB.out]
      go_wp2_with fail
      refine (digit_yes W1 z z1 z2).mono ?_
      rintro e w' ⟨rfl, rfl⟩
      go_wp2_with fail
      go_ret
      exact ⟨rfl, SS.out.bel⟩
  all_goals
    clear hk
    rcases (show nk ≤ 5 ∨ (5 < nk ∧ nt ≤ 4) by omega) with q | ⟨q, q'⟩
    all_goals
      clear hsh
      go_enter Try.func3, Try.ntmps3
      go_wp2_with fail
      refine (bytes4_yes w _ _ nk nt ck ct hsum).mono ?_
      rintro e w' ⟨rfl, rfl⟩
      go_wp2_with fail
      refine (key5 W1 _ 0 nk nk l SS.out.row hpos).mono ?_
      rintro e w' ⟨rfl, rfl⟩
      rw [HSK.out]
      go_wp2_with fail
      refine (bool6 W1 _ 0 nk nk l SS.out.row).mono ?_
      rintro e w' ⟨v, rfl, rfl⟩
      rw [HB.out]
      go_wp2_with fail
      refine (digit_no W1 _ (by omega)).mono ?_
      rintro e w' ⟨rfl, rfl⟩
      go_wp2_with fail
      go_ret
      exact ⟨rfl, SS.out.bel⟩
end Go.Proofs.Qxb6617986a
