/-
  Seat b6617442a: the walks of 'zzIsAEIOU' (23), 'consonant' (22), 'measure' (18), 'ZZMeasure' (7), 'zzVowelAt' (19), 'zzMeasureModel' (8).
-/
import Derived.Test.Qxb6617442aBase
import Derived.Test.Qxb6617442aPlain
namespace Go.Proofs.Qxb6617442a
open Go.ChangeShapes Go.WideShapes Go.ChangeAt Go.RowKit

theorem aeiou_true {z : Int} (h : aeiou z = true) : z = 97 ∨ z = 101 ∨ z = 105 ∨ z = 111 ∨ z = 117 := by
  simpa [aeiou] using h
theorem aeiou_false {z : Int} (h : aeiou z = false) : (z == 97) = false ∧ (z == 101) = false ∧ (z == 105) = false ∧ (z == 111) = false ∧ (z == 117) = false := by
  simpa [aeiou] using h

set_option maxHeartbeats 400000 in
theorem vow23 (w : World) (c : Int) : Calls Try.prog 23 #[.int .u8 c] w fun e w' => e = .returned (.bool (aeiou c)) ∧ w = w' := by
  cases hv : aeiou c with
  | true =>
    rcases aeiou_true hv with rfl | rfl | rfl | rfl | rfl
    all_goals
      clear hv
      go_enter Try.func23, Try.ntmps23
      go_wp2_with fail
      go_ret
      exact ⟨rfl, rfl⟩
  | false =>
    obtain ⟨h1, h2, h3, h4, h5⟩ := aeiou_false hv
    clear hv
    go_enter Try.func23, Try.ntmps23
    go_wp2_with fail
    go_ret
    exact ⟨rfl, rfl⟩

/-- the word that the stemmer at pb holds. -/
def Word (w : World) (pb : Nat) (zs : List Int) : Prop := ∃ ao n cap, n ≤ 5000 ∧ w.cell? ⟨pb, 0, none⟩ = some (.slice ao n cap) ∧ SrcAt w ao n cap zs

set_option maxHeartbeats 1600000 in
theorem cons22 (zs : List Int) (pb : Nat) (w : World) (hw : Word w pb zs) : ∀ (i : Nat) (ii : Int), ii = (i : Int) → i < zs.length →
    Calls Try.prog 22 #[.pointer (some ⟨pb, 0, none⟩), .int .i64 ii] w fun e w' => e = .returned (.bool (cons zs i)) ∧ w = w' := by
  obtain ⟨ao, n, cap, hn, hp, hsrc⟩ := hw
  intro i
  induction i with
  | zero =>
    intro ii hii hlt
    subst hii
    have hlen := hsrc.1
    rw [hlen] at hlt
    obtain ⟨b, off, rfl, hr⟩ := hsrc.2.2 (by omega)
    have hc := hr.2 0 hlt
    rw [Nat.add_zero] at hc
    cases hv : aeiou (zs.getD 0 0) with
    | true =>
      have HC : Hid _ := cons_vowel zs 0 hv
      rcases aeiou_true hv with h | h | h | h | h
      all_goals
        rw [h] at hc
        clear hv h hr hsrc hlen
        go_enter Try.func22, Try.ntmps22
        go_wp2_with fail
        go_ret
        exact ⟨by rw [HC.out]; rfl, rfl⟩
    | false =>
      obtain ⟨h1, h2, h3, h4, h5⟩ := aeiou_false hv
      by_cases hy : zs.getD 0 0 = 121
      · have HC : Hid _ := cons_y0 zs hy
        rw [hy] at hc
        clear hv hy h1 h2 h3 h4 h5 hr hsrc hlen
        go_enter Try.func22, Try.ntmps22
        go_wp2_with fail
        go_ret
        exact ⟨by rw [HC.out]; rfl, rfl⟩
      · have HC : Hid _ := cons_plain zs 0 hv hy
        generalize zs.getD 0 0 = z at hc h1 h2 h3 h4 h5 hy
        have h6 : (z == 121) = false := by simpa using hy
        clear hv hy hr hsrc hlen
        go_enter Try.func22, Try.ntmps22
        go_wp2_with fail
        go_ret
        exact ⟨by rw [HC.out]; rfl, rfl⟩
  | succ i ih =>
    intro ii hii hlt
    subst hii
    have hlen := hsrc.1
    have IH : Hid _ := ih
    have hlt2 : i < zs.length := by omega
    rw [hlen] at hlt
    obtain ⟨b, off, rfl, hr⟩ := hsrc.2.2 (by omega)
    have hc := hr.2 (i + 1) hlt
    clear ih
    cases hv : aeiou (zs.getD (i + 1) 0) with
    | true =>
      have HC : Hid _ := cons_vowel zs (i + 1) hv
      rcases aeiou_true hv with h | h | h | h | h
      all_goals
        rw [h] at hc
        clear hv h hr hsrc hlen
        go_enter Try.func22, Try.ntmps22
        go_wp2_with fail
        go_ret
        exact ⟨by rw [HC.out]; rfl, rfl⟩
    | false =>
      obtain ⟨h1, h2, h3, h4, h5⟩ := aeiou_false hv
      by_cases hy : zs.getD (i + 1) 0 = 121
      · have HC : Hid _ := cons_y zs i hy
        rw [hy] at hc
        clear hv hy h1 h2 h3 h4 h5 hr hsrc hlen
        go_enter Try.func22, Try.ntmps22
        go_wp2_with fail
        refine (IH.out _ (by omega) hlt2).mono ?_
        rintro e w' ⟨rfl, rfl⟩
        go_wp2_with fail
        go_ret
        exact ⟨by rw [HC.out]; rfl, rfl⟩
      · have HC : Hid _ := cons_plain zs (i + 1) hv hy
        generalize zs.getD (i + 1) 0 = z at hc h1 h2 h3 h4 h5 hy
        have h6 : (z == 121) = false := by simpa using hy
        clear hv hy hr hsrc hlen
        go_enter Try.func22, Try.ntmps22
        go_wp2_with fail
        go_ret
        exact ⟨by rw [HC.out]; rfl, rfl⟩

set_option maxHeartbeats 800000 in
theorem meas18 (zs : List Int) (pb : Nat) (w : World) (hw : Word w pb zs) (n : Nat) (nn : Int) (hnn : nn = (n : Int)) (hn : n ≤ zs.length) (hz : zs.length ≤ 5000) :
    Calls Try.prog 18 #[.pointer (some ⟨pb, 0, none⟩), .int .i64 nn] w fun e w' => e = .returned (.int .i64 (meas zs n)) ∧ w = w' := by
  subst hnn
  go_enter Try.func18, Try.ntmps18
  go_wp2_with fail
  go_loop [5, 6, 9] (fun m a c => ∃ k : Nat, k ≤ n ∧ c = .int .i64 k ∧ m = .int .i64 (meas zs k) ∧ a = .bool (after zs k)) (fun _ _ c => n - (intOf c).toNat)
  case atStart => exact ⟨0, Nat.zero_le _, rfl, rfl, rfl⟩
  case round =>
    obtain ⟨k, hk, rfl, rfl, rfl⟩ := hrel
    have hml := meas_le zs k
    by_cases hlt : k < n
    · have HM : Hid (meas zs (k + 1) = meas zs k + (if cons zs k && after zs k then 1 else 0)) := rfl
      have HA : Hid (after zs (k + 1) = !cons zs k) := rfl
      cases hc : cons zs k with
      | false =>
        have HM' : Hid (meas zs (k + 1) = meas zs k) := by
          show _ = _
          have := HM.out
          rw [hc] at this
          simpa using this
        have HA' : Hid (after zs (k + 1) = true) := by
          show _ = _
          have := HA.out
          rw [hc] at this
          simpa using this
        have HC : Hid _ := hc
        clear hc HM HA
        go_wp2_with fail
        refine (cons22 zs pb w hw k _ rfl (by omega)).mono ?_
        rintro e w' ⟨rfl, rfl⟩
        rw [HC.out]
        go_wp2_with fail
        go_round
        case rel => exact ⟨k + 1, by omega, by go_num, by rw [HM'.out], by rw [HA'.out]⟩
        case measure => simp [intOf]; omega
      | true =>
        have HA' : Hid (after zs (k + 1) = false) := by
          show _ = _
          have := HA.out
          rw [hc] at this
          simpa using this
        have HC : Hid _ := hc
        cases ha : after zs k with
        | false =>
          have HM' : Hid (meas zs (k + 1) = meas zs k) := by
            show _ = _
            have := HM.out
            rw [hc, ha] at this
            simpa using this
          clear hc HM HA
          go_wp2_with fail
          refine (cons22 zs pb w hw k _ rfl (by omega)).mono ?_
          rintro e w' ⟨rfl, rfl⟩
          rw [HC.out]
          go_wp2_with fail
          go_round
          case rel => exact ⟨k + 1, by omega, by go_num, by rw [HM'.out], by rw [HA'.out]⟩
          case measure => simp [intOf]; omega
        | true =>
          have HM' : Hid (meas zs (k + 1) = meas zs k + 1) := by
            show _ = _
            have := HM.out
            rw [hc, ha] at this
            simpa using this
          clear hc HM HA
          go_wp2_with fail
          refine (cons22 zs pb w hw k _ rfl (by omega)).mono ?_
          rintro e w' ⟨rfl, rfl⟩
          rw [HC.out]
          go_wp2_with fail
          go_round
          case rel => exact ⟨k + 1, by omega, by go_num, by rw [HM'.out]; go_num, by rw [HA'.out]⟩
          case measure => simp [intOf]; omega
    · have hkk : k = n := by omega
      subst hkk
      go_wp2_with fail
      go_ret
      exact ⟨rfl, rfl⟩

set_option maxHeartbeats 400000 in
theorem meas7 (zs : List Int) (w : World) (ao : Option Addr) (len cap : Nat) (h : SrcAt w ao len cap zs) (hl : len ≤ 5000) (n : Nat) (hn : n ≤ len) :
    Calls Try.prog 7 #[.slice ao len cap, .int .i64 n] w fun e w' => e = .returned (.int .i64 (meas zs n)) ∧ Below w.heap.size w w' := by
  have hz := h.1
  have hw : Word (w.alloc (.cells #[.slice ao len cap] 39)) w.heap.size zs :=
    ⟨ao, len, cap, hl, by rw [World.cell?_alloc_at _ _ _ _ rfl]; rfl, h.below ((Below.refl w.heap.size w).alloc (Nat.le_refl _) _) (Nat.le_refl _)⟩
  have HZ : Hid _ := hz
  clear hz h
  go_enter Try.func7, Try.ntmps7
  go_wp2_with fail
  refine (meas18 zs w.heap.size _ hw n _ rfl (by rw [HZ.out]; exact hn) (by rw [HZ.out]; exact hl)).mono ?_
  rintro e w' ⟨rfl, rfl⟩
  go_wp2_with fail
  go_ret
  exact ⟨rfl, (Below.refl _ _).alloc (Nat.le_refl _) _⟩

theorem odd_cast (a : Nat) : ((a : Int) % 2 == 1) = (a % 2 == 1) := by
  rcases Nat.mod_two_eq_zero_or_one a with h | h
  · have : (a : Int) % 2 = 0 := by omega
    simp [h, this]
  · have : (a : Int) % 2 = 1 := by omega
    simp [h, this]
theorem end0 (zs : List Int) (i : Nat) (h : Run zs i 0) : ((i : Int) % 2 == 1) = !cons zs i := by
  rw [← run_end0 zs i h, odd_cast]
  cases (i % 2 == 1) <;> rfl
theorem end1 (zs : List Int) (i j : Nat) (z : Int) (hji : j + 1 ≤ i) (h : ((!aeiou z) != ((i - (j + 1)) % 2 == 1)) = !cons zs i) : (!((!aeiou z) == (((i : Int) - ((j : Int) + 1)) % 2 == 1))) = !cons zs i := by
  rw [← h, show (i : Int) - ((j : Int) + 1) = ((i - (j + 1) : Nat) : Int) by omega, odd_cast]
  rfl

set_option maxHeartbeats 1600000 in
theorem vow19 (zs : List Int) (w : World) (b off n cap : Nat) (hr : RowAt w b off n zs) (hn : n ≤ 5000) (i : Nat) (hi : i < n) :
    Calls Try.prog 19 #[.slice (some ⟨b, off, none⟩) n cap, .int .i64 i] w fun e w' => e = .returned (.bool (!cons zs i)) ∧ w = w' := by
  have hci := hr.2 i hi
  cases hv : aeiou (zs.getD i 0) with
  | true =>
    have HC : Hid _ := cons_vowel zs i hv
    have HV : Hid _ := hv
    clear hv
    generalize zs.getD i 0 = z at hci HV
    go_enter Try.func19, Try.ntmps19
    go_wp2_with fail
    refine (vow23 w z).mono ?_
    rintro e w' ⟨rfl, rfl⟩
    rw [HV.out]
    go_wp2_with fail
    go_ret
    exact ⟨by rw [HC.out]; rfl, rfl⟩
  | false =>
    have HV : Hid _ := hv
    by_cases hy : zs.getD i 0 = 121
    · have HR : Hid _ := run_start zs i hy
      rw [hy] at hci
      clear hv hy
      go_enter Try.func19, Try.ntmps19
      go_wp2_with fail
      refine (vow23 w 121).mono ?_
      rintro e w' ⟨rfl, rfl⟩
      rw [aeiou_121]
      go_wp2_with fail
      go_loop [6] (fun c => ∃ j : Nat, c = .int .i64 j ∧ Run zs i j) (fun c => (intOf c).toNat)
      case atStart => exact ⟨i, rfl, HR.out⟩
      case round =>
        obtain ⟨j, rfl, hrun⟩ := hrel
        have hji : j ≤ i := hrun.1
        have HRUN : Hid (Run zs i j) := hrun
        clear hrun HR
        cases j with
        | zero =>
          go_wp2_with fail
          go_ret
          exact ⟨congrArg (fun b => Ending.returned (.bool b)) (end0 zs i HRUN.out), rfl⟩
        | succ j =>
          have hcj := hr.2 j (by omega)
          by_cases hyj : zs.getD j 0 = 121
          · have HS : Hid _ := run_step zs i j HRUN.out hyj
            rw [hyj] at hcj
            clear hyj
            go_wp2_with fail
            go_round
            case rel => exact ⟨j, by go_num, HS.out⟩
            case measure => simp [intOf]
          · have HE : Hid _ := run_end zs i j HRUN.out hyj
            generalize zs.getD j 0 = z at hcj hyj HE
            have h6 : (z == 121) = false := by simpa using hyj
            clear hyj
            go_wp2_with fail
            refine (vow23 w z).mono ?_
            rintro e w' ⟨rfl, rfl⟩
            go_wp2_with fail
            go_ret
            exact ⟨congrArg (fun b => Ending.returned (.bool b)) (end1 zs i j z hji HE.out), rfl⟩
    · have HC : Hid _ := cons_plain zs i hv hy
      generalize zs.getD i 0 = z at hci HV hy
      have h6 : (z == 121) = false := by simpa using hy
      clear hv hy
      go_enter Try.func19, Try.ntmps19
      go_wp2_with fail
      refine (vow23 w z).mono ?_
      rintro e w' ⟨rfl, rfl⟩
      rw [HV.out]
      go_wp2_with fail
      go_ret
      exact ⟨by rw [HC.out]; rfl, rfl⟩

set_option maxHeartbeats 1600000 in
theorem model8 (zs : List Int) (w : World) (ao : Option Addr) (len cap : Nat) (h : SrcAt w ao len cap zs) (hl : len ≤ 5000) (n : Nat) (hn : n ≤ len) :
    Calls Try.prog 8 #[.slice ao len cap, .int .i64 n] w fun e w' => e = .returned (.int .i64 (meas zs n)) ∧ w = w' := by
  go_enter Try.func8, Try.ntmps8
  go_wp2_with fail
  go_loop [5, 6, 7] (fun g p c => ∃ k : Nat, k ≤ n ∧ c = .int .i64 k ∧ g = .int .i64 (grp zs k) ∧ p = .bool (after zs k)) (fun _ _ c => n - (intOf c).toNat)
  case atStart => exact ⟨0, Nat.zero_le _, rfl, rfl, rfl⟩
  case round =>
    obtain ⟨k, hk, rfl, rfl, rfl⟩ := hrel
    have hgl := grp_le zs k
    by_cases hlt : k < n
    · obtain ⟨b, off, rfl, hr⟩ := h.2.2 (by omega)
      cases hc : cons zs k with
      | true =>
        have HG : Hid _ := grp_cons zs k hc
        have HC : Hid _ := hc
        clear hc
        go_wp2_with fail
        refine (vow19 zs w b off len cap hr hl k (by omega)).mono ?_
        rintro e w' ⟨rfl, rfl⟩
        rw [HC.out]
        go_wp2_with fail
        go_round
        case rel => exact ⟨k + 1, by omega, by go_num, by rw [HG.out.1], by rw [HG.out.2]⟩
        case measure => simp [intOf]; omega
      | false =>
        have HC : Hid _ := hc
        cases ha : after zs k with
        | true =>
          have HG : Hid _ := grp_vowel_old zs k hc ha
          clear hc
          go_wp2_with fail
          refine (vow19 zs w b off len cap hr hl k (by omega)).mono ?_
          rintro e w' ⟨rfl, rfl⟩
          rw [HC.out]
          go_wp2_with fail
          go_round
          case rel => exact ⟨k + 1, by omega, by go_num, by rw [HG.out.1], by rw [HG.out.2]⟩
          case measure => simp [intOf]; omega
        | false =>
          have HG : Hid _ := grp_vowel_new zs k hc ha
          clear hc
          go_wp2_with fail
          refine (vow19 zs w b off len cap hr hl k (by omega)).mono ?_
          rintro e w' ⟨rfl, rfl⟩
          rw [HC.out]
          go_wp2_with fail
          go_round
          case rel => exact ⟨k + 1, by omega, by go_num, by rw [HG.out.1]; go_num, by rw [HG.out.2]⟩
          case measure => simp [intOf]; omega
    · have hkk : k = n := by omega
      subst hkk
      cases ha : after zs k with
      | true =>
        have HG : Hid (grp zs k = meas zs k + 1) := by
          show _ = _
          unfold grp
          rw [ha]
          rfl
        have hg1 : 1 ≤ grp zs k := by rw [HG.out]; omega
        go_wp2_with fail
        go_ret
        exact ⟨congrArg (fun i => Ending.returned (.int .i64 i)) (show ((grp zs k : Int) - 1) = (meas zs k : Int) by rw [HG.out]; omega), rfl⟩
      | false =>
        have HG : Hid (grp zs k = meas zs k) := by
          show _ = _
          unfold grp
          rw [ha]
          rfl
        go_wp2_with fail
        go_ret
        exact ⟨by rw [← HG.out]; rfl, rfl⟩
end Go.Proofs.Qxb6617442a
