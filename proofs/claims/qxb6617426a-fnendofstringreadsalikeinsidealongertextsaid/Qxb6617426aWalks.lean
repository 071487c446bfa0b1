/-
  Seat b6617426a: the walks of 'endOfString' (function 10), 'ZZendOfString' (7), 'zzClosingOffset' (6).
-/
import Derived.Test.Qxb6617426aBase
import Derived.Test.Qxb6617426aPlain
namespace Go.Proofs.Qxb6617426a
open Go.ChangeShapes Go.WideShapes Go.ChangeAt Go.RowKit

theorem drop_cons (zs : List Int) (k : Nat) (h : k < zs.length) : zs.drop k = zs.getD k 0 :: zs.drop (k + 1) := by
  rw [List.drop_eq_getElem_cons h, List.getD_eq_getElem?_getD, List.getElem?_eq_getElem h]
  rfl

/-- where the scanner stands at k, so much is the answer. -/
def at_ (zs : List Int) (k : Nat) : Nat := min zs.length (k + scan (zs.drop k))

theorem at_start (zs : List Int) (s : Nat) (h : s < zs.length) : at_ zs (s + 1) = eos zs s := by
  have := eos_hi zs s h
  unfold at_ eos at *
  omega
theorem at_end (zs : List Int) (k : Nat) (h : zs.length ≤ k) : at_ zs k = zs.length := by
  unfold at_
  omega
theorem at_slash (zs : List Int) (k : Nat) (h : k < zs.length) (hc : zs.getD k 0 = 92) : at_ zs k = at_ zs (k + 2) := by
  rw [show k + 2 = k + 1 + 1 from rfl]
  unfold at_
  rw [drop_cons zs k h, hc]
  by_cases h1 : k + 1 < zs.length
  · rw [drop_cons zs (k + 1) h1]
    simp only [scan, if_true]
    omega
  · rw [List.drop_eq_nil_of_le (show zs.length ≤ k + 1 by omega)]
    simp only [scan]
    omega
theorem at_quote (zs : List Int) (k : Nat) (h : k < zs.length) (hc : zs.getD k 0 = 34) : at_ zs k = k + 1 := by
  unfold at_
  rw [drop_cons zs k h, hc]
  have e : scan (34 :: zs.drop (k + 1)) = 1 := by
    cases zs.drop (k + 1) with
    | nil => rfl
    | cons d r => simp [scan]
  rw [e]
  omega
theorem at_other (zs : List Int) (k : Nat) (h : k < zs.length) (h1 : zs.getD k 0 ≠ 92) (h2 : zs.getD k 0 ≠ 34) : at_ zs k = at_ zs (k + 1) := by
  unfold at_
  rw [drop_cons zs k h]
  have e : k + scan (zs.getD k 0 :: zs.drop (k + 1)) = k + 1 + scan (zs.drop (k + 1)) := by
    cases zs.drop (k + 1) with
    | nil => simp [scan]
    | cons d r =>
      rw [scan, if_neg h1, if_neg h2]
      omega
  rw [e]

set_option maxHeartbeats 400000 in
theorem eos10 (w : World) (b off n cap : Nat) (zs : List Int) (s : Nat) (hr : RowAt w b off n zs) (hs : s < n) (hn : n ≤ 1048576) :
    Calls Try.prog 10 #[.slice (some ⟨b, off, none⟩) n cap, .int .i64 s] w fun e w' => e = .returned (.int .i64 (eos zs s)) ∧ w = w' := by
  have HZ : Hid (zs.length = n) := hr.1
  have HE : Hid (at_ zs (s + 1) = eos zs s) := at_start zs s (by rw [hr.1]; exact hs)
  go_enter Try.func10, Try.ntmps10
  go_wp2_with fail
  go_loop [5] (fun c => ∃ k : Nat, k ≤ n + 1 ∧ c = .int .i64 k ∧ at_ zs k = eos zs s) (fun c => n + 1 - (intOf c).toNat)
  case atStart => exact ⟨s + 1, by omega, by go_num, HE.out⟩
  case round =>
    obtain ⟨k, hk, rfl, hat⟩ := hrel
    have HA : Hid _ := hat
    clear hat
    by_cases hlt : k < n
    · have hck := hr.2 k hlt
      have hl : k < zs.length := by rw [HZ.out]; exact hlt
      by_cases h1 : zs.getD k 0 = 92
      · have A2 : Hid _ := (at_slash zs k hl h1).symm.trans HA.out
        rw [h1] at hck
        clear h1
        go_wp2_with fail
        go_round
        case rel => exact ⟨k + 2, by omega, by go_num, A2.out⟩
        case measure => simp [intOf]; omega
      · by_cases h2 : zs.getD k 0 = 34
        · have A2 : Hid _ := (at_quote zs k hl h2).symm.trans HA.out
          rw [h2] at hck
          clear h1 h2
          go_wp2_with fail
          go_ret
          exact ⟨by rw [← A2.out]; rfl, rfl⟩
        · have A2 : Hid _ := (at_other zs k hl h1 h2).symm.trans HA.out
          generalize zs.getD k 0 = z at hck h1 h2
          have b1 : (z == 92) = false := by simpa using h1
          have b2 : (z == 34) = false := by simpa using h2
          clear h1 h2
          go_wp2_with fail
          go_round
          case rel => exact ⟨k + 1, by omega, by go_num, A2.out⟩
          case measure => simp [intOf]; omega
    · go_wp2_with fail
      go_ret
      have he := at_end zs k (by rw [HZ.out]; omega)
      rw [HZ.out] at he
      exact ⟨by rw [← HA.out, he]; rfl, rfl⟩

set_option maxHeartbeats 400000 in
theorem eos7 (w : World) (b off n cap : Nat) (zs : List Int) (s : Nat) (hr : RowAt w b off n zs) (hs : s < n) (hn : n ≤ 1048576) :
    Calls Try.prog 7 #[.slice (some ⟨b, off, none⟩) n cap, .int .i64 s] w fun e w' => e = .returned (.int .i64 (eos zs s)) ∧ w = w' := by
  go_enter Try.func7, Try.ntmps7
  go_wp2_with fail
  refine (eos10 w b off n cap zs s hr hs hn).mono ?_
  rintro e w' ⟨rfl, rfl⟩
  go_wp2_with fail
  go_ret
  exact ⟨rfl, rfl⟩

/-- the model's answer where it stands at k with a run of r. -/
def cl_ (zs : List Int) (k r : Nat) : Nat := k + clo r (zs.drop k)

theorem cl_start (zs : List Int) (s : Nat) : cl_ zs (s + 1) 0 = eos zs s := by
  unfold cl_ eos
  rw [(clo_scan _ 0).1 rfl]
theorem cl_end (zs : List Int) (k r : Nat) (h : zs.length = k) : cl_ zs k r = zs.length := by
  unfold cl_
  rw [List.drop_eq_nil_of_le (by omega)]
  simp [clo, h]
theorem cl_slash (zs : List Int) (k r : Nat) (h : k < zs.length) (hc : zs.getD k 0 = 92) : cl_ zs k r = cl_ zs (k + 1) (r + 1) := by
  unfold cl_
  rw [drop_cons zs k h, clo, if_pos hc]
  omega
theorem cl_quote (zs : List Int) (k r : Nat) (h : k < zs.length) (hc : zs.getD k 0 = 34) (hr : r % 2 = 0) : cl_ zs k r = k + 1 := by
  unfold cl_
  rw [drop_cons zs k h, clo, if_neg (by omega), if_pos ⟨hc, hr⟩]
theorem cl_other (zs : List Int) (k r : Nat) (h : k < zs.length) (h1 : zs.getD k 0 ≠ 92) (h2 : ¬ (zs.getD k 0 = 34 ∧ r % 2 = 0)) : cl_ zs k r = cl_ zs (k + 1) 0 := by
  unfold cl_
  rw [drop_cons zs k h, clo, if_neg h1, if_neg h2]
  omega

set_option maxHeartbeats 400000 in
theorem clo6 (w : World) (b off n cap : Nat) (zs : List Int) (s : Nat) (hr : RowAt w b off n zs) (hs : s < n) (hn : n ≤ 1048576) :
    Calls Try.prog 6 #[.slice (some ⟨b, off, none⟩) n cap, .int .i64 s] w fun e w' => e = .returned (.int .i64 (eos zs s)) ∧ w = w' := by
  have HZ : Hid (zs.length = n) := hr.1
  have HE : Hid (cl_ zs (s + 1) 0 = eos zs s) := cl_start zs s
  go_enter Try.func6, Try.ntmps6
  go_wp2_with fail
  go_loop [5, 6] (fun q c => ∃ k r : Nat, k ≤ n ∧ r ≤ k ∧ c = .int .i64 k ∧ q = .int .i64 r ∧ cl_ zs k r = eos zs s) (fun _ c => n - (intOf c).toNat)
  case atStart => exact ⟨s + 1, 0, by omega, by omega, by go_num, rfl, HE.out⟩
  case round =>
    obtain ⟨k, r, hk, hrk, rfl, rfl, hat⟩ := hrel
    have HA : Hid _ := hat
    clear hat
    by_cases hlt : k < n
    · have hck := hr.2 k hlt
      have hl : k < zs.length := by rw [HZ.out]; exact hlt
      by_cases h1 : zs.getD k 0 = 92
      · have A2 : Hid _ := (cl_slash zs k r hl h1).symm.trans HA.out
        rw [h1] at hck
        clear h1
        go_wp2_with fail
        go_round
        case rel => exact ⟨k + 1, r + 1, by omega, by omega, by go_num, by go_num, A2.out⟩
        case measure => simp [intOf]; omega
      · by_cases h2 : zs.getD k 0 = 34
        · by_cases h3 : r % 2 = 0
          · have A2 : Hid _ := (cl_quote zs k r hl h2 h3).symm.trans HA.out
            rw [h2] at hck
            have h3' : ((r : Int) % 2 == 0) = true := by simp; omega
            clear h1 h2 h3
            go_wp2_with fail
            go_ret
            exact ⟨by rw [← A2.out]; rfl, rfl⟩
          · have A2 : Hid _ := (cl_other zs k r hl h1 (fun e => h3 e.2)).symm.trans HA.out
            rw [h2] at hck
            have h3' : ((r : Int) % 2 == 0) = false := by simp; omega
            clear h1 h2 h3
            go_wp2_with fail
            go_round
            case rel => exact ⟨k + 1, 0, by omega, by omega, by go_num, rfl, A2.out⟩
            case measure => simp [intOf]; omega
        · have A2 : Hid _ := (cl_other zs k r hl h1 (fun e => h2 e.1)).symm.trans HA.out
          generalize zs.getD k 0 = z at hck h1 h2
          have b1 : (z == 92) = false := by simpa using h1
          have b2 : (z == 34) = false := by simpa using h2
          clear h1 h2
          go_wp2_with fail
          go_round
          case rel => exact ⟨k + 1, 0, by omega, by omega, by go_num, rfl, A2.out⟩
          case measure => simp [intOf]; omega
    · go_wp2_with fail
      go_ret
      have he := cl_end zs k r (by rw [HZ.out]; omega)
      rw [HZ.out] at he
      exact ⟨by rw [← HA.out, he]; rfl, rfl⟩
end Go.Proofs.Qxb6617426a
