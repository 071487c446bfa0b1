/-
  Seat b6617986a: the law's walks where a longer key is built.
-/
import Derived.Test.Qxb6617986aKey
namespace Go.Proofs.Qxb6617986a
open Go.ChangeShapes Go.WideShapes Go.ChangeAt Go.RowKit

theorem fit_below {w W1 W2 w3 : World} {o : Obj} (h1 : Below w.heap.size w W1) (h2 : Below W1.heap.size W1 W2) (hg : (W2.alloc o).grownBy w3 (some W1.heap.size)) : Below w.heap.size w w3 ∧ W1.heap.size ≤ w3.heap.size := by
  have hz := h1.size
  have hz2 := h2.size
  have hb : Below w.heap.size w W2 := h1.trans (h2.mono hz)
  refine ⟨(hb.alloc hb.size o).grown hg (by rw [World.size_alloc]; omega) (by intro k hk; cases hk; exact hz), ?_⟩
  have := hg.size
  rw [World.size_alloc] at this
  omega

theorem long_row {w : World} {base g n cap : Nat} {c : UInt8} {t : List UInt8} {z : Int} (hz : (c.toNat : Int) = z) (h : w.ownsRow base 5 1 (.slice (some ⟨g, 0, none⟩) (1 + n) cap) (1 + n) (.int .u8 z :: (ints t).map (Value.int .u8))) : RowAt w g 0 (1 + n) (ints (c :: t)) := by
  refine row_of_own (base := base) (cap := cap) ?_
  have e : (ints (c :: t)).map (Value.int .u8) = .int .u8 z :: (ints t).map (Value.int .u8) := by
    rw [← hz]
    rfl
  rw [e]
  exact h

set_option maxHeartbeats 8000000 in
theorem long_mark (w W0 W1 W2 : World) (b off nk ck : Nat) (at_ : Option Addr) (nt ct : Nat) (l t : List UInt8) (S : Setting w W0 W1 W2 b off nk ck at_ nt ct l t)
    (hk : mark ((l.getD 0 0).toNat : Int) = true) (hsk : skey l = false) (hb : isB l = false) (h5 : 5 < nk) (h4 : 4 < nt) (hsk2 : skey (l.getD 0 0 :: t) = false) :
    Calls Try.prog 3 #[.slice (some ⟨b, off, none⟩) nk ck, .slice at_ nt ct] w fun e w' => e = .returned (.bool true) ∧ Below w.heap.size w w' := by
  obtain ⟨i0, hi, hz0, hz1, hz2⟩ := info_parts info5
  have hm := S.mk1
  have hcp := S.cp
  have hm2 := S.mk2
  have hpos := S.pos
  have hsum := S.sum
  have hnn := run_neq_nil
  have hcell := S.cell
  have SS : Hid (Setting w W0 W1 W2 b off nk ck at_ nt ct l t) := S
  have HSK : Hid (skey l = false) := hsk
  have HB : Hid (isB l = false) := hb
  clear S hsk hb
  have HSK2 : Hid (skey (l.getD 0 0 :: t) = false) := hsk2
  clear hsk2
  generalize hz : ((l.getD 0 0).toNat : Int) = z at hcell hk
  have HZ : Hid (((l.getD 0 0).toNat : Int) = z) := hz
  clear hz
  rcases (show (48 ≤ z ∧ z ≤ 57) ∨ z = 43 ∨ z = 45 ∨ z = 46 ∨ z = 126 ∨ z = 60 by simp [mark] at hk; omega) with ⟨z1, z2⟩ | rfl | rfl | rfl | rfl | rfl
  · clear hk
    go_enter Try.func3, Try.ntmps3
    go_wp2_with fail
    refine (bytes4_yes w _ _ nk nt ck ct hsum).mono ?_
    rintro e w' ⟨rfl, rfl⟩
    go_wp2_with fail
    refine (key5 W1 _ 0 nk nk l SS.out.row hpos).mono ?_
    rintro e w' ⟨rfl, rfl⟩
    rw [HSK.out]
    go_wp2_with fail
    refine (bool6 W1 _ 0 nk nk l SS.out.row).mono ?_
    rintro e w' ⟨v, rfl, rfl⟩
    rw [HB.out]
    go_wp2_with fail
    refine (digit_yes W1 z z1 z2).mono ?_
    rintro e w' ⟨rfl, rfl⟩
    go_wp2_with (at_builtin; refine wpList_append_fits _ rfl (.tmp 106) (.tmp 108) 22 rfl W1.heap.size 5 i0 1 Try.underlying22 hi hz1 W1.heap.size 0 (1 + nt) [] rfl (SS.out.own.alloc _) ⟨W2.heap.size, 0, none⟩ 1 1 [.int .u8 z] rfl rfl (one_news W2 _) (by intro u hu; simp at hu; subst hu; rfl) (by omega) ?_)
    intro w3 ho3 hg3
    have B3 : Hid _ := fit_below SS.out.bel SS.out.bel2 hg3
    clear hg3
    go_wp2_with (at_builtin; refine wpList_append_fits_any _ rfl (.tmp 110) (.tmp 111) 22 rfl W1.heap.size 5 i0 1 Try.underlying22 hi hz1 W1.heap.size 1 (1 + nt) _ rfl ho3 at_ nt ct ((ints t).map (Value.int .u8)) rfl (by rw [List.length_map, SS.out.src.1]; omega) SS.out.src.2.1 (SS.out.src.below B3.out.1 (Nat.le_refl _)).cells (ints_oneCell _ _) (by omega) ?_)
    intro w4 ho4 hg4
    have B4 : Hid _ := B3.out.1.grown hg4 B3.out.1.size (by intro k hk; cases hk; exact SS.out.bel.size)
    have ROW : Hid (RowAt w4 W1.heap.size 0 (1 + nt) (ints (l.getD 0 0 :: t))) := long_row HZ.out ho4
    clear hg4 ho4 ho3
    go_wp2_with fail
    refine (key5 w4 _ 0 (1 + nt) (1 + nt) _ ROW.out (by omega)).mono ?_
    rintro e w' ⟨rfl, rfl⟩
    rw [HSK2.out]
    go_wp2_with fail
    go_ret
    exact ⟨rfl, B4.out⟩
  all_goals
    clear hk
    go_enter Try.func3, Try.ntmps3
    go_wp2_with fail
    refine (bytes4_yes w _ _ nk nt ck ct hsum).mono ?_
    rintro e w' ⟨rfl, rfl⟩
    go_wp2_with fail
    refine (key5 W1 _ 0 nk nk l SS.out.row hpos).mono ?_
    rintro e w' ⟨rfl, rfl⟩
    rw [HSK.out]
    go_wp2_with fail
    refine (bool6 W1 _ 0 nk nk l SS.out.row).mono ?_
    rintro e w' ⟨v, rfl, rfl⟩
    rw [HB.out]
    go_wp2_with fail
    refine (digit_no W1 _ (by omega)).mono ?_
    rintro e w' ⟨rfl, rfl⟩
    go_wp2_with (at_builtin; refine wpList_append_fits _ rfl (.tmp 106) (.tmp 108) 22 rfl W1.heap.size 5 i0 1 Try.underlying22 hi hz1 W1.heap.size 0 (1 + nt) [] rfl (SS.out.own.alloc _) ⟨W2.heap.size, 0, none⟩ 1 1 [.int .u8 _] rfl rfl (one_news W2 _) (by intro u hu; simp at hu; subst hu; rfl) (by omega) ?_)
    intro w3 ho3 hg3
    have B3 : Hid _ := fit_below SS.out.bel SS.out.bel2 hg3
    clear hg3
    go_wp2_with (at_builtin; refine wpList_append_fits_any _ rfl (.tmp 110) (.tmp 111) 22 rfl W1.heap.size 5 i0 1 Try.underlying22 hi hz1 W1.heap.size 1 (1 + nt) _ rfl ho3 at_ nt ct ((ints t).map (Value.int .u8)) rfl (by rw [List.length_map, SS.out.src.1]; omega) SS.out.src.2.1 (SS.out.src.below B3.out.1 (Nat.le_refl _)).cells (ints_oneCell _ _) (by omega) ?_)
    intro w4 ho4 hg4
    have B4 : Hid _ := B3.out.1.grown hg4 B3.out.1.size (by intro k hk; cases hk; exact SS.out.bel.size)
    have ROW : Hid (RowAt w4 W1.heap.size 0 (1 + nt) (ints (l.getD 0 0 :: t))) := long_row HZ.out ho4
    clear hg4 ho4 ho3
    go_wp2_with fail
    refine (key5 w4 _ 0 (1 + nt) (1 + nt) _ ROW.out (by omega)).mono ?_
    rintro e w' ⟨rfl, rfl⟩
    rw [HSK2.out]
    go_wp2_with fail
    go_ret
    exact ⟨rfl, B4.out⟩

set_option maxHeartbeats 8000000 in
theorem long_plain (w W0 W1 W2 : World) (b off nk ck : Nat) (at_ : Option Addr) (nt ct : Nat) (l t : List UInt8) (S : Setting w W0 W1 W2 b off nk ck at_ nt ct l t)
    (hk : mark ((l.getD 0 0).toNat : Int) = false) (hsk : skey l = true) (hb : isB l = false) (h5 : 5 < nk) (h4 : 4 < nt) (hsk2 : skey (l.getD 0 0 :: t) = true) :
    Calls Try.prog 3 #[.slice (some ⟨b, off, none⟩) nk ck, .slice at_ nt ct] w fun e w' => e = .returned (.bool true) ∧ Below w.heap.size w w' := by
  obtain ⟨i0, hi, hz0, hz1, hz2⟩ := info_parts info5
  have hm := S.mk1
  have hcp := S.cp
  have hm2 := S.mk2
  have hpos := S.pos
  have hsum := S.sum
  have hnn := run_neq_nil
  have hcell := S.cell
  have SS : Hid (Setting w W0 W1 W2 b off nk ck at_ nt ct l t) := S
  have HSK : Hid (skey l = true) := hsk
  have HB : Hid (isB l = false) := hb
  clear S hsk hb
  have HSK2 : Hid (skey (l.getD 0 0 :: t) = true) := hsk2
  clear hsk2
  have hz48 := mark_range hk
  obtain ⟨m0, m1, m2, m3, m4, _, _, _, _, _, _, _, _, _, _⟩ := mark_false hk
  clear hk
  generalize hz : ((l.getD 0 0).toNat : Int) = z at hcell hz48 m0 m1 m2 m3 m4
  have HZ : Hid (((l.getD 0 0).toNat : Int) = z) := hz
  have HD : Hid _ := hz48
  clear hz hz48
  have y4 : ((nk : Int) == 4) = false := by simp; omega
  by_cases z1 : z = 110
  · subst z1
    go_enter Try.func3, Try.ntmps3
    go_wp2_with fail
    refine (bytes4_yes w _ _ nk nt ck ct hsum).mono ?_
    rintro e w' ⟨rfl, rfl⟩
    go_wp2_with fail
    refine (key5 W1 _ 0 nk nk l SS.out.row hpos).mono ?_
    rintro e w' ⟨rfl, rfl⟩
    rw [HSK.out]
    go_wp2_with fail
    refine (bool6 W1 _ 0 nk nk l SS.out.row).mono ?_
    rintro e w' ⟨v, rfl, rfl⟩
    rw [HB.out]
    go_wp2_with fail
    refine (digit_no W1 _ (by omega)).mono ?_
    rintro e w' ⟨rfl, rfl⟩
    go_wp2_with (at_builtin; refine wpList_append_fits _ rfl (.tmp 106) (.tmp 108) 22 rfl W1.heap.size 5 i0 1 Try.underlying22 hi hz1 W1.heap.size 0 (1 + nt) [] rfl (SS.out.own.alloc _) ⟨W2.heap.size, 0, none⟩ 1 1 [.int .u8 _] rfl rfl (one_news W2 _) (by intro u hu; simp at hu; subst hu; rfl) (by omega) ?_)
    intro w3 ho3 hg3
    have B3 : Hid _ := fit_below SS.out.bel SS.out.bel2 hg3
    clear hg3
    go_wp2_with (at_builtin; refine wpList_append_fits_any _ rfl (.tmp 110) (.tmp 111) 22 rfl W1.heap.size 5 i0 1 Try.underlying22 hi hz1 W1.heap.size 1 (1 + nt) _ rfl ho3 at_ nt ct ((ints t).map (Value.int .u8)) rfl (by rw [List.length_map, SS.out.src.1]; omega) SS.out.src.2.1 (SS.out.src.below B3.out.1 (Nat.le_refl _)).cells (ints_oneCell _ _) (by omega) ?_)
    intro w4 ho4 hg4
    have B4 : Hid _ := B3.out.1.grown hg4 B3.out.1.size (by intro k hk; cases hk; exact SS.out.bel.size)
    have ROW : Hid (RowAt w4 W1.heap.size 0 (1 + nt) (ints (l.getD 0 0 :: t))) := long_row HZ.out ho4
    clear hg4 ho4 ho3
    go_wp2_with fail
    refine (key5 w4 _ 0 (1 + nt) (1 + nt) _ ROW.out (by omega)).mono ?_
    rintro e w' ⟨rfl, rfl⟩
    rw [HSK2.out]
    go_wp2_with fail
    go_ret
    exact ⟨rfl, B4.out⟩
  · by_cases z2 : z = 78
    · subst z2
      go_enter Try.func3, Try.ntmps3
      go_wp2_with fail
      refine (bytes4_yes w _ _ nk nt ck ct hsum).mono ?_
      rintro e w' ⟨rfl, rfl⟩
      go_wp2_with fail
      refine (key5 W1 _ 0 nk nk l SS.out.row hpos).mono ?_
      rintro e w' ⟨rfl, rfl⟩
      rw [HSK.out]
      go_wp2_with fail
      refine (bool6 W1 _ 0 nk nk l SS.out.row).mono ?_
      rintro e w' ⟨v, rfl, rfl⟩
      rw [HB.out]
      go_wp2_with fail
      refine (digit_no W1 _ (by omega)).mono ?_
      rintro e w' ⟨rfl, rfl⟩
      go_wp2_with (at_builtin; refine wpList_append_fits _ rfl (.tmp 106) (.tmp 108) 22 rfl W1.heap.size 5 i0 1 Try.underlying22 hi hz1 W1.heap.size 0 (1 + nt) [] rfl (SS.out.own.alloc _) ⟨W2.heap.size, 0, none⟩ 1 1 [.int .u8 _] rfl rfl (one_news W2 _) (by intro u hu; simp at hu; subst hu; rfl) (by omega) ?_)
      intro w3 ho3 hg3
      have B3 : Hid _ := fit_below SS.out.bel SS.out.bel2 hg3
      clear hg3
      go_wp2_with (at_builtin; refine wpList_append_fits_any _ rfl (.tmp 110) (.tmp 111) 22 rfl W1.heap.size 5 i0 1 Try.underlying22 hi hz1 W1.heap.size 1 (1 + nt) _ rfl ho3 at_ nt ct ((ints t).map (Value.int .u8)) rfl (by rw [List.length_map, SS.out.src.1]; omega) SS.out.src.2.1 (SS.out.src.below B3.out.1 (Nat.le_refl _)).cells (ints_oneCell _ _) (by omega) ?_)
      intro w4 ho4 hg4
      have B4 : Hid _ := B3.out.1.grown hg4 B3.out.1.size (by intro k hk; cases hk; exact SS.out.bel.size)
      have ROW : Hid (RowAt w4 W1.heap.size 0 (1 + nt) (ints (l.getD 0 0 :: t))) := long_row HZ.out ho4
      clear hg4 ho4 ho3
      go_wp2_with fail
      refine (key5 w4 _ 0 (1 + nt) (1 + nt) _ ROW.out (by omega)).mono ?_
      rintro e w' ⟨rfl, rfl⟩
      rw [HSK2.out]
      go_wp2_with fail
      go_ret
      exact ⟨rfl, B4.out⟩
    · have y1 : (z == 110) = false := by simpa using z1
      have y2 : (z == 78) = false := by simpa using z2
      clear z1 z2
      go_enter Try.func3, Try.ntmps3
      go_wp2_with fail
      refine (bytes4_yes w _ _ nk nt ck ct hsum).mono ?_
      rintro e w' ⟨rfl, rfl⟩
      go_wp2_with fail
      refine (key5 W1 _ 0 nk nk l SS.out.row hpos).mono ?_
      rintro e w' ⟨rfl, rfl⟩
      rw [HSK.out]
      go_wp2_with fail
      refine (bool6 W1 _ 0 nk nk l SS.out.row).mono ?_
      rintro e w' ⟨v, rfl, rfl⟩
      rw [HB.out]
      go_wp2_with fail
      refine (digit_no W1 _ HD.out).mono ?_
      rintro e w' ⟨rfl, rfl⟩
      go_wp2_with (at_builtin; refine wpList_append_fits _ rfl (.tmp 106) (.tmp 108) 22 rfl W1.heap.size 5 i0 1 Try.underlying22 hi hz1 W1.heap.size 0 (1 + nt) [] rfl (SS.out.own.alloc _) ⟨W2.heap.size, 0, none⟩ 1 1 [.int .u8 z] rfl rfl (one_news W2 _) (by intro u hu; simp at hu; subst hu; rfl) (by omega) ?_)
      intro w3 ho3 hg3
      have B3 : Hid _ := fit_below SS.out.bel SS.out.bel2 hg3
      clear hg3
      go_wp2_with (at_builtin; refine wpList_append_fits_any _ rfl (.tmp 110) (.tmp 111) 22 rfl W1.heap.size 5 i0 1 Try.underlying22 hi hz1 W1.heap.size 1 (1 + nt) _ rfl ho3 at_ nt ct ((ints t).map (Value.int .u8)) rfl (by rw [List.length_map, SS.out.src.1]; omega) SS.out.src.2.1 (SS.out.src.below B3.out.1 (Nat.le_refl _)).cells (ints_oneCell _ _) (by omega) ?_)
      intro w4 ho4 hg4
      have B4 : Hid _ := B3.out.1.grown hg4 B3.out.1.size (by intro k hk; cases hk; exact SS.out.bel.size)
      have ROW : Hid (RowAt w4 W1.heap.size 0 (1 + nt) (ints (l.getD 0 0 :: t))) := long_row HZ.out ho4
      clear hg4 ho4 ho3
      go_wp2_with fail
      refine (key5 w4 _ 0 (1 + nt) (1 + nt) _ ROW.out (by omega)).mono ?_
      rintro e w' ⟨rfl, rfl⟩
      rw [HSK2.out]
      go_wp2_with fail
      go_ret
      exact ⟨rfl, B4.out⟩
end Go.Proofs.Qxb6617986a
