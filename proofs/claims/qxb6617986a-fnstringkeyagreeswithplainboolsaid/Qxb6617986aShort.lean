/-
  Seat b6617986a: the law's walks, key not led by a number's or a mark's byte; the way that builds a longer key.
-/
import Derived.Test.Qxb6617986aKey
namespace Go.Proofs.Qxb6617986a
open Go.ChangeShapes Go.WideShapes Go.ChangeAt Go.RowKit

theorem four (nk : Nat) : (4 ≤ nk ∧ nk ≤ 4 ∧ ((nk : Int) == 4) = true) ∨ ((nk : Int) == 4) = false := by
  by_cases h : nk = 4
  · exact .inl ⟨by omega, by omega, by simp; omega⟩
  · exact .inr (by simp; omega)

set_option maxHeartbeats 4000000 in
theorem short_bool (w W0 W1 W2 : World) (b off nk ck : Nat) (at_ : Option Addr) (nt ct : Nat) (l t : List UInt8) (S : Setting w W0 W1 W2 b off nk ck at_ nt ct l t)
    (hk : mark ((l.getD 0 0).toNat : Int) = false) (hsk : skey l = false) (hb : isB l = true) (hsh : nk ≤ 5) :
    Calls Try.prog 3 #[.slice (some ⟨b, off, none⟩) nk ck, .slice at_ nt ct] w fun e w' => e = .returned (.bool true) ∧ Below w.heap.size w w' := by
  have hm := S.mk1
  have hcp := S.cp
  have hm2 := S.mk2
  have hpos := S.pos
  have hsum := S.sum
  have hnn := run_neq_nil
  have hcell := S.cell
  have SS : Hid (Setting w W0 W1 W2 b off nk ck at_ nt ct l t) := S
  have HSK : Hid (skey l = false) := hsk
  have HB : Hid (isB l = true) := hb
  clear S hsk hb
  have hz48 := mark_range hk
  have HD : Hid _ := hz48
  obtain ⟨m0, m1, m2, m3, m4, _, _, _, _, _, _, _, _, _, _⟩ := mark_false hk
  clear hk hz48
  generalize ((l.getD 0 0).toNat : Int) = z at *
  by_cases z1 : z = 110
  · subst z1
    rcases four nk with ⟨q4, q5, q6⟩ | q6
    all_goals
      go_enter Try.func3, Try.ntmps3
      go_wp2_with fail
      refine (bytes4_yes w _ _ nk nt ck ct hsum).mono ?_
      rintro e w' ⟨rfl, rfl⟩
      go_wp2_with fail
      refine (key5 W1 _ 0 nk nk l SS.out.row hpos).mono ?_
      rintro e w' ⟨rfl, rfl⟩
      rw [HSK.out]
      go_wp2_with fail
      refine (bool6 W1 _ 0 nk nk l SS.out.row).mono ?_
      rintro e w' ⟨v, rfl, rfl⟩
      rw [HB.out]
      go_wp2_with fail
      refine (digit_no W1 _ (by omega)).mono ?_
      rintro e w' ⟨rfl, rfl⟩
      go_wp2_with fail
      go_ret
      exact ⟨rfl, SS.out.bel⟩
  · by_cases z2 : z = 78
    · subst z2
      rcases four nk with ⟨q4, q5, q6⟩ | q6
      all_goals
        go_enter Try.func3, Try.ntmps3
        go_wp2_with fail
        refine (bytes4_yes w _ _ nk nt ck ct hsum).mono ?_
        rintro e w' ⟨rfl, rfl⟩
        go_wp2_with fail
        refine (key5 W1 _ 0 nk nk l SS.out.row hpos).mono ?_
        rintro e w' ⟨rfl, rfl⟩
        rw [HSK.out]
        go_wp2_with fail
        refine (bool6 W1 _ 0 nk nk l SS.out.row).mono ?_
        rintro e w' ⟨v, rfl, rfl⟩
        rw [HB.out]
        go_wp2_with fail
        refine (digit_no W1 _ (by omega)).mono ?_
        rintro e w' ⟨rfl, rfl⟩
        go_wp2_with fail
        go_ret
        exact ⟨rfl, SS.out.bel⟩
    · have y1 : (z == 110) = false := by simpa using z1
      have y2 : (z == 78) = false := by simpa using z2
      clear z1 z2
      go_enter Try.func3, Try.ntmps3
      go_wp2_with fail
      refine (bytes4_yes w _ _ nk nt ck ct hsum).mono ?_
      rintro e w' ⟨rfl, rfl⟩
      go_wp2_with fail
      refine (key5 W1 _ 0 nk nk l SS.out.row hpos).mono ?_
      rintro e w' ⟨rfl, rfl⟩
      rw [HSK.out]
      go_wp2_with fail
      refine (bool6 W1 _ 0 nk nk l SS.out.row).mono ?_
      rintro e w' ⟨v, rfl, rfl⟩
      rw [HB.out]
      go_wp2_with fail
      refine (digit_no W1 _ HD.out).mono ?_
      rintro e w' ⟨rfl, rfl⟩
      go_wp2_with fail
      go_ret
      exact ⟨rfl, SS.out.bel⟩

set_option maxHeartbeats 4000000 in
theorem short_null (w W0 W1 W2 : World) (b off nk ck : Nat) (at_ : Option Addr) (nt ct : Nat) (l t : List UInt8) (S : Setting w W0 W1 W2 b off nk ck at_ nt ct l t)
    (hk : mark ((l.getD 0 0).toNat : Int) = false) (hsk : skey l = false) (hb : isB l = false) (hn4 : 4 ≤ nk) (hn5 : nk ≤ 4) (hz : ((l.getD 0 0).toNat : Int) = 110 ∨ ((l.getD 0 0).toNat : Int) = 78) :
    Calls Try.prog 3 #[.slice (some ⟨b, off, none⟩) nk ck, .slice at_ nt ct] w fun e w' => e = .returned (.bool true) ∧ Below w.heap.size w w' := by
  have hm := S.mk1
  have hcp := S.cp
  have hm2 := S.mk2
  have hpos := S.pos
  have hsum := S.sum
  have hnn := run_neq_nil
  have hcell := S.cell
  have SS : Hid (Setting w W0 W1 W2 b off nk ck at_ nt ct l t) := S
  have HSK : Hid (skey l = false) := hsk
  have HB : Hid (isB l = false) := hb
  clear S hsk hb
  have hz48 := mark_range hk
  have HD : Hid _ := hz48
  obtain ⟨m0, m1, m2, m3, m4, _, _, _, _, _, _, _, _, _, _⟩ := mark_false hk
  clear hk hz48
  generalize ((l.getD 0 0).toNat : Int) = z at *
  have q6 : ((nk : Int) == 4) = true := by simp; omega
  rcases hz with rfl | rfl
  all_goals
    go_enter Try.func3, Try.ntmps3
    go_wp2_with fail
    refine (bytes4_yes w _ _ nk nt ck ct hsum).mono ?_
    rintro e w' ⟨rfl, rfl⟩
    go_wp2_with fail
    refine (key5 W1 _ 0 nk nk l SS.out.row hpos).mono ?_
    rintro e w' ⟨rfl, rfl⟩
    rw [HSK.out]
    go_wp2_with fail
    refine (bool6 W1 _ 0 nk nk l SS.out.row).mono ?_
    rintro e w' ⟨v, rfl, rfl⟩
    rw [HB.out]
    go_wp2_with fail
    refine (digit_no W1 _ (by omega)).mono ?_
    rintro e w' ⟨rfl, rfl⟩
    go_wp2_with fail
    go_ret
    exact ⟨rfl, SS.out.bel⟩

theorem cases3 {nk nt : Nat} (h : nk ≤ 5 ∨ nt ≤ 4) : (4 ≤ nk ∧ nk ≤ 4 ∧ ((nk : Int) == 4) = true) ∨ (nk ≤ 5 ∧ ((nk : Int) == 4) = false) ∨ (5 < nk ∧ nt ≤ 4 ∧ ((nk : Int) == 4) = false) := by
  rcases four nk with h4 | h4
  · exact .inl h4
  · by_cases h5 : nk ≤ 5
    · exact .inr (.inl ⟨h5, h4⟩)
    · exact .inr (.inr ⟨by omega, by omega, h4⟩)

set_option maxHeartbeats 8000000 in
theorem short_plain (w W0 W1 W2 : World) (b off nk ck : Nat) (at_ : Option Addr) (nt ct : Nat) (l t : List UInt8) (S : Setting w W0 W1 W2 b off nk ck at_ nt ct l t)
    (hk : mark ((l.getD 0 0).toNat : Int) = false) (hsk : skey l = true) (hb : isB l = false) (hsh : nk ≤ 5 ∨ nt ≤ 4) :
    Calls Try.prog 3 #[.slice (some ⟨b, off, none⟩) nk ck, .slice at_ nt ct] w fun e w' => e = .returned (.bool true) ∧ Below w.heap.size w w' := by
  have hm := S.mk1
  have hcp := S.cp
  have hm2 := S.mk2
  have hpos := S.pos
  have hsum := S.sum
  have hnn := run_neq_nil
  have hcell := S.cell
  have SS : Hid (Setting w W0 W1 W2 b off nk ck at_ nt ct l t) := S
  have HSK : Hid (skey l = true) := hsk
  have HB : Hid (isB l = false) := hb
  clear S hsk hb
  have hz48 := mark_range hk
  have HD : Hid _ := hz48
  obtain ⟨m0, m1, m2, m3, m4, _, _, _, _, _, _, _, _, _, _⟩ := mark_false hk
  clear hk hz48
  generalize ((l.getD 0 0).toNat : Int) = z at *
  rcases cases3 hsh with ⟨q1, q2, q3⟩ | ⟨q2, q3⟩ | ⟨q1, q2, q3⟩
  all_goals
    clear hsh
    by_cases z1 : z = 110
    · subst z1
      go_enter Try.func3, Try.ntmps3
      go_wp2_with fail
      refine (bytes4_yes w _ _ nk nt ck ct hsum).mono ?_
      rintro e w' ⟨rfl, rfl⟩
      go_wp2_with fail
      refine (key5 W1 _ 0 nk nk l SS.out.row hpos).mono ?_
      rintro e w' ⟨rfl, rfl⟩
      rw [HSK.out]
      go_wp2_with fail
      refine (bool6 W1 _ 0 nk nk l SS.out.row).mono ?_
      rintro e w' ⟨v, rfl, rfl⟩
      rw [HB.out]
      go_wp2_with fail
      refine (digit_no W1 _ (by omega)).mono ?_
      rintro e w' ⟨rfl, rfl⟩
      go_wp2_with fail
      go_ret
      exact ⟨rfl, SS.out.bel⟩
    · by_cases z2 : z = 78
      · subst z2
        go_enter Try.func3, Try.ntmps3
        go_wp2_with fail
        refine (bytes4_yes w _ _ nk nt ck ct hsum).mono ?_
        rintro e w' ⟨rfl, rfl⟩
        go_wp2_with fail
        refine (key5 W1 _ 0 nk nk l SS.out.row hpos).mono ?_
        rintro e w' ⟨rfl, rfl⟩
        rw [HSK.out]
        go_wp2_with fail
        refine (bool6 W1 _ 0 nk nk l SS.out.row).mono ?_
        rintro e w' ⟨v, rfl, rfl⟩
        rw [HB.out]
        go_wp2_with fail
        refine (digit_no W1 _ (by omega)).mono ?_
        rintro e w' ⟨rfl, rfl⟩
        go_wp2_with fail
        go_ret
        exact ⟨rfl, SS.out.bel⟩
      · have y1 : (z == 110) = false := by simpa using z1
        have y2 : (z == 78) = false := by simpa using z2
        clear z1 z2
        go_enter Try.func3, Try.ntmps3
        go_wp2_with fail
        refine (bytes4_yes w _ _ nk nt ck ct hsum).mono ?_
        rintro e w' ⟨rfl, rfl⟩
        go_wp2_with fail
        refine (key5 W1 _ 0 nk nk l SS.out.row hpos).mono ?_
        rintro e w' ⟨rfl, rfl⟩
        rw [HSK.out]
        go_wp2_with fail
        refine (bool6 W1 _ 0 nk nk l SS.out.row).mono ?_
        rintro e w' ⟨v, rfl, rfl⟩
        rw [HB.out]
        go_wp2_with fail
        refine (digit_no W1 _ HD.out).mono ?_
        rintro e w' ⟨rfl, rfl⟩
        go_wp2_with fail
        go_ret
        exact ⟨rfl, SS.out.bel⟩
end Go.Proofs.Qxb6617986a
