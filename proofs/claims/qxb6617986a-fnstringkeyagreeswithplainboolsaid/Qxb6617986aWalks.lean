/-
  Seat b6617986a: the walks of 'plainBool' (9), 'ZZplainBool' (6), 'stringKey' (8), 'ZZstringKey' (5), 'zzIsDigit' (7).
-/
import Derived.Test.Qxb6617986aPlain
namespace Go.Proofs.Qxb6617986a
open Go.ChangeShapes Go.WideShapes Go.ChangeAt Go.RowKit

set_option maxHeartbeats 4000000 in
theorem bool9_yes (w : World) (a : Option Addr) (n cap : Nat) (s : ByteArray) (hcv : (convert 22 9 (.slice a n cap)).run Try.prog w = .ok (.string s) w) (h : IsYes s.toList) :
    Calls Try.prog 9 #[.slice a n cap] w fun e w' => e = .returned (.tuple #[.bool true, .bool true]) ∧ w = w' := by
  rcases h with h | h | h | h | h | h | h | h | h | h | h
  all_goals
    go_enter Try.func9, Try.ntmps9
    go_wp2_with fail
    go_ret2
    exact ⟨rfl, rfl⟩

set_option maxHeartbeats 4000000 in
theorem bool9_no (w : World) (a : Option Addr) (n cap : Nat) (s : ByteArray) (hcv : (convert 22 9 (.slice a n cap)).run Try.prog w = .ok (.string s) w) (h : IsNo s.toList) :
    Calls Try.prog 9 #[.slice a n cap] w fun e w' => e = .returned (.tuple #[.bool false, .bool true]) ∧ w = w' := by
  rcases h with h | h | h | h | h | h | h | h | h | h | h
  all_goals
    go_enter Try.func9, Try.ntmps9
    go_wp2_with fail
    go_ret2
    exact ⟨rfl, rfl⟩

set_option maxHeartbeats 1600000 in
theorem bool9_none (w : World) (a : Option Addr) (n cap : Nat) (s : ByteArray) (hcv : (convert 22 9 (.slice a n cap)).run Try.prog w = .ok (.string s) w) (hy : ¬ IsYes s.toList) (hn : ¬ IsNo s.toList) :
    Calls Try.prog 9 #[.slice a n cap] w fun e w' => e = .returned (.tuple #[.bool false, .bool false]) ∧ w = w' := by
  obtain ⟨h1, h2, h3, h4, h5, h6, h7, h8, h9, h10, h11⟩ := no_yes hy
  obtain ⟨g1, g2, g3, g4, g5, g6, g7, g8, g9, g10, g11⟩ := no_no hn
  clear hy hn
  go_enter Try.func9, Try.ntmps9
  go_wp2_with fail
  go_ret2
  exact ⟨rfl, rfl⟩

theorem bool9 (w : World) (b off n cap : Nat) (l : List UInt8) (h : RowAt w b off n (ints l)) :
    Calls Try.prog 9 #[.slice (some ⟨b, off, none⟩) n cap] w fun e w' => ∃ v, e = .returned (.tuple #[.bool v, .bool (isB l)]) ∧ w = w' := by
  have hcv := cv_key h cap
  have hl : (ByteArray.mk l.toArray).toList = l := by simp
  cases hb : isB l with
  | true =>
    rcases (isB_iff l).1 hb with hy | hn
    · exact (bool9_yes w _ n cap _ hcv (by rw [hl]; exact hy)).mono fun e w' ⟨he, hw⟩ => ⟨true, he, hw⟩
    · exact (bool9_no w _ n cap _ hcv (by rw [hl]; exact hn)).mono fun e w' ⟨he, hw⟩ => ⟨false, he, hw⟩
  | false =>
    have hnb : ¬ (IsYes l ∨ IsNo l) := fun h' => by rw [(isB_iff l).2 h'] at hb; cases hb
    exact (bool9_none w _ n cap _ hcv (by rw [hl]; exact fun h' => hnb (.inl h')) (by rw [hl]; exact fun h' => hnb (.inr h'))).mono fun e w' ⟨he, hw⟩ => ⟨false, he, hw⟩

set_option maxHeartbeats 400000 in
theorem bool6 (w : World) (b off n cap : Nat) (l : List UInt8) (h : RowAt w b off n (ints l)) :
    Calls Try.prog 6 #[.slice (some ⟨b, off, none⟩) n cap] w fun e w' => ∃ v, e = .returned (.tuple #[.bool v, .bool (isB l)]) ∧ w = w' := by
  go_enter Try.func6, Try.ntmps6
  go_wp2_with fail
  refine (bool9 w b off n cap l h).mono ?_
  rintro e w' ⟨v, rfl, rfl⟩
  go_wp2_with fail
  go_ret2
  exact ⟨v, rfl, rfl⟩

set_option maxHeartbeats 4000000 in
theorem key8_mark (w : World) (b off n cap : Nat) (z : Int) (hc : w.cell? ⟨b, off, none⟩ = some (.int .u8 z)) (hn : 0 < n) (hm : mark z = true) :
    Calls Try.prog 8 #[.slice (some ⟨b, off, none⟩) n cap] w fun e w' => e = .returned (.bool false) ∧ w = w' := by
  rcases mark_true hm with rfl | rfl | rfl | rfl | rfl | rfl | rfl | rfl | rfl | rfl | rfl | rfl | rfl | rfl | rfl
  all_goals
    clear hm
    go_enter Try.func8, Try.ntmps8
    go_wp2_with fail
    go_ret
    exact ⟨rfl, rfl⟩

set_option maxHeartbeats 4000000 in
theorem key8_plain (w : World) (b off n cap : Nat) (l : List UInt8) (h : RowAt w b off n (ints l)) (hn : 0 < n) (hm : mark ((l.getD 0 0).toNat : Int) = false) :
    Calls Try.prog 8 #[.slice (some ⟨b, off, none⟩) n cap] w fun e w' => e = .returned (.bool (!isB l && !isN l)) ∧ w = w' := by
  obtain ⟨m0, m1, m2, m3, m4, m5, m6, m7, m8, m9, m10, m11, m12, m13, m14⟩ := mark_false hm
  have hc := h.2 0 hn
  rw [Nat.add_zero, ints_at] at hc
  have hcv := cv_key h cap
  have hl : (ByteArray.mk l.toArray).toList = l := by simp
  have H : Hid (RowAt w b off n (ints l)) := h
  clear h hm
  generalize ((l.getD 0 0).toNat : Int) = z at *
  generalize ByteArray.mk l.toArray = s at hcv hl
  cases hb : isB l with
  | true =>
    have HB : Hid _ := hb
    clear hl hb
    go_enter Try.func8, Try.ntmps8
    go_wp2_with fail
    refine (bool9 w b off n cap l H.out).mono ?_
    rintro e w' ⟨v, rfl, rfl⟩
    rw [HB.out]
    go_wp2_with fail
    go_ret
    exact ⟨rfl, rfl⟩
  | false =>
    have HB : Hid _ := hb
    clear hb
    cases hq : isN l with
    | true =>
      rcases (isN_iff l).1 hq with h' | h' | h'
      all_goals
        rw [h'] at hl
        clear h' hq
        go_enter Try.func8, Try.ntmps8
        go_wp2_with fail
        refine (bool9 w b off n cap l H.out).mono ?_
        rintro e w' ⟨v, rfl, rfl⟩
        rw [HB.out]
        go_wp2_with fail
        go_ret
        exact ⟨rfl, rfl⟩
    | false =>
      have hnn : ¬ IsNull l := fun h' => by rw [(isN_iff l).2 h'] at hq; cases hq
      obtain ⟨q1, q2, q3⟩ := no_null hnn
      rw [← hl] at q1 q2 q3
      clear hl hq hnn
      go_enter Try.func8, Try.ntmps8
      go_wp2_with fail
      refine (bool9 w b off n cap l H.out).mono ?_
      rintro e w' ⟨v, rfl, rfl⟩
      rw [HB.out]
      go_wp2_with fail
      go_ret
      exact ⟨rfl, rfl⟩

theorem key8 (w : World) (b off n cap : Nat) (l : List UInt8) (h : RowAt w b off n (ints l)) (hn : 0 < n) :
    Calls Try.prog 8 #[.slice (some ⟨b, off, none⟩) n cap] w fun e w' => e = .returned (.bool (skey l)) ∧ w = w' := by
  cases hm : mark ((l.getD 0 0).toNat : Int) with
  | true =>
    have hc := h.2 0 hn
    rw [Nat.add_zero, ints_at] at hc
    refine (key8_mark w b off n cap _ hc hn hm).mono fun e w' ⟨he, hw⟩ => ⟨?_, hw⟩
    rw [he]
    unfold skey
    rw [hm]
    rfl
  | false =>
    refine (key8_plain w b off n cap l h hn hm).mono fun e w' ⟨he, hw⟩ => ⟨?_, hw⟩
    rw [he]
    unfold skey
    rw [hm]
    rfl

set_option maxHeartbeats 400000 in
theorem key5 (w : World) (b off n cap : Nat) (l : List UInt8) (h : RowAt w b off n (ints l)) (hn : 0 < n) :
    Calls Try.prog 5 #[.slice (some ⟨b, off, none⟩) n cap] w fun e w' => e = .returned (.bool (skey l)) ∧ w = w' := by
  go_enter Try.func5, Try.ntmps5
  go_wp2_with fail
  refine (key8 w b off n cap l h hn).mono ?_
  rintro e w' ⟨rfl, rfl⟩
  go_wp2_with fail
  go_ret
  exact ⟨rfl, rfl⟩
end Go.Proofs.Qxb6617986a
