/-
  Seat b6617426a: the walks of 'zzBytes_FnEndOfStringReadsAlikeInsideALongerText' (function 9) and 'FnEndOfStringReadsAlikeInsideALongerText' (function 4).
-/
import Derived.Test.Qxb6617426aCut
namespace Go.Proofs.Qxb6617426a
open Go.ChangeShapes Go.WideShapes Go.ChangeAt Go.RowKit

/-- a slice of bytes that came in: nothing known of its address where it is empty. -/
def SrcAt (w : World) (ao : Option Addr) (n cap : Nat) (zs : List Int) : Prop :=
  zs.length = n ∧ (ao = none → n = 0 ∧ cap = 0) ∧ (0 < n → ∃ b off, ao = some ⟨b, off, none⟩ ∧ RowAt w b off n zs)

theorem SrcAt.below {B : Nat} {w w' : World} {ao : Option Addr} {n cap : Nat} {zs : List Int} (h : SrcAt w ao n cap zs) (hb : Below B w w') (hB : w.heap.size ≤ B) : SrcAt w' ao n cap zs :=
  ⟨h.1, h.2.1, fun h0 => by obtain ⟨b, off, e, hr⟩ := h.2.2 h0; exact ⟨b, off, e, hr.below hb hB⟩⟩

theorem SrcAt.cells {w : World} {ao : Option Addr} {n cap : Nat} {zs : List Int} (h : SrcAt w ao n cap zs) : ∀ ad, ao = some ad → ∀ j u, (zs.map (Value.int .u8))[j]? = some u → w.cell? (ad.add j) = some u := by
  intro ad had j u hu
  have hj : j < zs.length := by simpa using (List.getElem?_eq_some_iff.1 hu).1
  obtain ⟨b, off, e, hr⟩ := h.2.2 (by rw [← h.1]; omega)
  rw [had] at e
  obtain rfl := Option.some.inj e
  rw [add_plain, hr.2 j (by rw [← h.1]; exact hj)]
  simp [hj] at hu
  simp [List.getD_eq_getElem?_getD, hj, hu]

theorem RowAt.src {w : World} {b off n cap : Nat} {zs : List Int} (h : RowAt w b off n zs) : SrcAt w (some ⟨b, off, none⟩) n cap zs :=
  ⟨h.1, fun e => (by cases e), fun _ => ⟨b, off, rfl, h⟩⟩

theorem eos7i (w : World) (b off n cap : Nat) (zs : List Int) (si : Int) (s : Nat) (hsi : si = (s : Int)) (hr : RowAt w b off n zs) (hs : s < n) (hn : n ≤ 1048576) :
    Calls Try.prog 7 #[.slice (some ⟨b, off, none⟩) n cap, .int .i64 si] w fun e w' => e = .returned (.int .i64 (eos zs s)) ∧ w = w' := by
  subst hsi
  exact eos7 w b off n cap zs s hr hs hn

set_option maxHeartbeats 400000 in
theorem bytes9 (w : World) (a0 a1 a2 : Option Addr) (n0 n1 n2 c0 c1 c2 : Nat) (s : Int) (h0 : n0 ≤ 9223372036854775807) (h1 : n1 ≤ 9223372036854775807) (h2 : n2 ≤ 9223372036854775807) :
    Calls Try.prog 9 #[.slice a0 n0 c0, .slice a1 n1 c1, .slice a2 n2 c2, .int .i64 s] w fun e w' => Guards True w e w' := by
  go_enter Try.func9, Try.ntmps9
  go_wp2_with fail
  all_goals
    go_ret
    exact Guards.mk rfl (fun _ => trivial)

set_option maxHeartbeats 400000 in
theorem bytes9_yes (w : World) (a0 a1 a2 : Option Addr) (n0 n1 n2 c0 c1 c2 : Nat) (s : Int) (h0 : n0 ≤ 262144) (h1 : n1 ≤ 262144) (h2 : n2 ≤ 262144) :
    Calls Try.prog 9 #[.slice a0 n0 c0, .slice a1 n1 c1, .slice a2 n2 c2, .int .i64 s] w fun e w' => e = .returned (.bool true) ∧ w = w' := by
  go_enter Try.func9, Try.ntmps9
  go_wp2_with fail
  go_ret
  exact ⟨rfl, rfl⟩

set_option maxHeartbeats 800000 in
theorem long_no (w : World) (a0 a1 a2 : Option Addr) (n0 n1 n2 c0 c1 c2 : Nat) (s : Int) (h0 : n0 ≤ 9223372036854775807) (h1 : n1 ≤ 9223372036854775807) (h2 : n2 ≤ 9223372036854775807)
    (hs1 : -9223372036854775808 ≤ s) (hs2 : s ≤ 9223372036854775807) (h : ¬ (n0 ≤ 262144 ∧ n1 ≤ 262144 ∧ n2 ≤ 262144 ∧ 0 ≤ s ∧ s < n1)) :
    Calls Try.prog 4 #[.slice a0 n0 c0, .slice a1 n1 c1, .slice a2 n2 c2, .int .i64 s] w fun e w' => e = .returned (.bool true) ∧ Below w.heap.size w w' := by
  go_enter Try.func4, Try.ntmps4
  go_wp2_with fail
  refine (bytes9 w a0 a1 a2 n0 n1 n2 c0 c1 c2 s h0 h1 h2).mono ?_
  rintro e w' ⟨b, rfl, rfl, _⟩
  cases b with
  | false =>
    go_wp2_with fail
    go_ret
    exact ⟨rfl, Below.refl _ _⟩
  | true =>
    rcases (show 262144 < n0 ∨ (n0 ≤ 262144 ∧ 262144 < n1) ∨ (n0 ≤ 262144 ∧ n1 ≤ 262144 ∧ 262144 < n2) ∨ (n0 ≤ 262144 ∧ n1 ≤ 262144 ∧ n2 ≤ 262144 ∧ s < 0) ∨ (n0 ≤ 262144 ∧ n1 ≤ 262144 ∧ n2 ≤ 262144 ∧ 0 ≤ s ∧ n1 ≤ s) by omega) with q1 | ⟨q1, q2⟩ | ⟨q1, q2, q3⟩ | ⟨q1, q2, q3, q4⟩ | ⟨q1, q2, q3, q4, q5⟩
    all_goals
      clear h
      go_wp2_with fail
      go_ret
      exact ⟨rfl, Below.refl _ _⟩

/-- 'text := make([]byte, 0, la+lv+ly)'. -/
theorem made (w : World) (n0 n1 n2 : Nat) (h0 : n0 ≤ 262144) (h1 : n1 ≤ 262144) (h2 : n2 ≤ 262144) :
    ∃ W0, (Instr.makeSlice 22 (.int .i64 0) (.int .i64 ((n0 : Int) + (n1 : Int) + (n2 : Int)))).run Try.prog w = .ok (.slice (some ⟨w.heap.size, 0, none⟩) 0 (n0 + n1 + n2)) W0 ∧
      W0.ownsRow w.heap.size 5 1 (.slice (some ⟨w.heap.size, 0, none⟩) 0 (n0 + n1 + n2)) 0 [] ∧ w.grownBy W0 none := by
  obtain ⟨i0, hi, hz0, hz1, hz2⟩ := info_parts info5
  obtain ⟨w', hr, ho, hg⟩ := run_make_own (P := Try.prog) w w.heap.size 22 5 i0 (.int .u8 0) 1 Try.underlying22 hi hz0 hz1 .i64 .i64 (n0 + n1 + n2) (by rw [hz2]; omega) (by unfold maxLen; omega) (Nat.le_refl _)
  refine ⟨w', ?_, ho, hg⟩
  rw [← hr]
  simp

theorem row_of_own {w : World} {base g n cap : Nat} {zs : List Int} (h : w.ownsRow base 5 1 (.slice (some ⟨g, 0, none⟩) n cap) n (zs.map (Value.int .u8))) : RowAt w g 0 n zs := by
  have hl : zs.length = n := by simpa using h.1
  refine ⟨hl, fun j hj => ?_⟩
  rw [Nat.zero_add, h.cellAt j (by omega)]
  have hj' : j < zs.length := by omega
  simp [List.getD_eq_getElem?_getD, hj']

theorem gstep {w W1 W2 w3 : World} (hs : w.heap.size ≤ W1.heap.size) (h1 : Below w.heap.size w W2) (h2 : Below W1.heap.size W1 W2) (hg : W2.grownBy w3 (some W1.heap.size)) : Below w.heap.size w w3 ∧ Below W1.heap.size W1 w3 :=
  ⟨h1.grown hg h1.size (by intro k hk; cases hk; exact hs), h2.grown hg h2.size (by intro k hk; cases hk; exact Nat.le_refl _)⟩

set_option maxHeartbeats 1600000 in
theorem long_yes (w : World) (a0 a2 : Option Addr) (b off : Nat) (n0 n1 n2 c0 c1 c2 : Nat) (xs zs ys : List Int) (s : Nat) (h0 : n0 ≤ 262144) (h1 : n1 ≤ 262144) (h2 : n2 ≤ 262144)
    (hs : s < n1) (hx : SrcAt w a0 n0 c0 xs) (hr : RowAt w b off n1 zs) (hy : SrcAt w a2 n2 c2 ys) :
    Calls Try.prog 4 #[.slice a0 n0 c0, .slice (some ⟨b, off, none⟩) n1 c1, .slice a2 n2 c2, .int .i64 s] w fun e w' => e = .returned (.bool true) ∧ Below w.heap.size w w' := by
  obtain ⟨W0, W1, hm, hcp, hr1, hb1⟩ := copied w b off n1 c1 zs hr (by omega)
  obtain ⟨W2, hm2, ho2, hg2⟩ := made W1 n0 n1 n2 h0 h1 h2
  obtain ⟨i0, hi, hz0, hz1, hz2⟩ := info_parts info5
  have hnn := run_neq_nil
  have HR : Hid (RowAt W1 w.heap.size 0 n1 zs) := hr1
  have HB : Hid (Below w.heap.size w W1) := hb1
  have HX : Hid (SrcAt w a0 n0 c0 xs) := hx
  have HY : Hid (SrcAt w a2 n2 c2 ys) := hy
  have B2 : Hid (Below w.heap.size w W2 ∧ Below W1.heap.size W1 W2) := ⟨hb1.grown hg2 hb1.size (by intro k hk; cases hk), (Below.refl _ _).grown hg2 (Nat.le_refl _) (by intro k hk; cases hk)⟩
  have elo := eos_lo zs s
  have ehi := eos_hi zs s (by rw [hr.1]; exact hs)
  have HQ : Hid (eos zs s < zs.length → s + 2 ≤ eos zs s ∧ zs.getD (eos zs s - 1) 0 = 34) := eos_quote zs s
  have HI : Hid _ := eos_inside xs zs ys s (by rw [hr.1]; exact hs)
  have HLZ : Hid (zs.length = n1) := hr.1
  rw [hr.1] at ehi
  clear hr1 hb1 hx hy hr hg2
  go_enter Try.func4, Try.ntmps4
  go_wp2_with fail
  refine (bytes9_yes w _ _ _ n0 n1 n2 c0 c1 c2 s h0 h1 h2).mono ?_
  rintro e w' ⟨rfl, rfl⟩
  go_wp2_with fail
  refine (eos7 W1 _ 0 n1 n1 zs s HR.out hs (by omega)).mono ?_
  rintro e w' ⟨rfl, rfl⟩
  by_cases hlt : eos zs s < n1
  · have hq := HQ.out (by rw [HLZ.out]; exact hlt)
    have hq1 := hq.1
    have hqc : W1.cell? ⟨w.heap.size, eos zs s - 1, none⟩ = some (.int .u8 34) := by
      have := HR.out.2 (eos zs s - 1) (by omega)
      rw [Nat.zero_add, hq.2] at this
      exact this
    clear hq
    generalize eos zs s = e0 at *
    go_wp2_with (at_builtin; refine wpList_append_fits_any _ rfl (.tmp 82) (.tmp 83) 22 rfl W1.heap.size 5 i0 1 Try.underlying22 hi hz1 W1.heap.size 0 (n0 + n1 + n2) [] rfl ho2 a0 n0 c0 (xs.map (Value.int .u8)) rfl (by simp [HX.out.1]) HX.out.2.1 (HX.out.below B2.out.1 (Nat.le_refl _)).cells (ints_oneCell _ _) (by omega) ?_)
    intro w3 ho3 hg3
    have B3 : Hid _ := gstep HB.out.size B2.out.1 B2.out.2 hg3
    clear hg3 ho2 B2
    go_wp2_with (at_builtin; refine wpList_append_fits_any _ rfl (.tmp 85) (.tmp 86) 22 rfl W1.heap.size 5 i0 1 Try.underlying22 hi hz1 W1.heap.size n0 (n0 + n1 + n2) (xs.map (Value.int .u8)) rfl ho3 (some ⟨w.heap.size, 0, none⟩) n1 n1 (zs.map (Value.int .u8)) rfl (by simp [HLZ.out]) (fun e => by cases e) ((HR.out.src (cap := n1)).below B3.out.2 (Nat.le_refl _)).cells (ints_oneCell _ _) (by omega) ?_)
    intro w4 ho4 hg4
    have B4 : Hid _ := gstep HB.out.size B3.out.1 B3.out.2 hg4
    clear hg4 ho3 B3
    go_wp2_with (at_builtin; refine wpList_append_fits_any _ rfl (.tmp 88) (.tmp 89) 22 rfl W1.heap.size 5 i0 1 Try.underlying22 hi hz1 W1.heap.size (n0 + n1) (n0 + n1 + n2) _ rfl ho4 a2 n2 c2 (ys.map (Value.int .u8)) rfl (by simp [HY.out.1]) HY.out.2.1 (HY.out.below B4.out.1 (Nat.le_refl _)).cells (ints_oneCell _ _) (by omega) ?_)
    intro w5 ho5 hg5
    have B5 : Hid _ := gstep HB.out.size B4.out.1 B4.out.2 hg5
    clear hg5 ho4 B4
    have hrow : RowAt w5 W1.heap.size 0 (n0 + n1 + n2) (xs ++ zs ++ ys) := row_of_own (base := W1.heap.size) (cap := n0 + n1 + n2) (by rw [List.map_append, List.map_append, List.append_assoc]; exact ho5)
    have HROW : Hid _ := hrow
    clear hrow ho5
    go_wp2_with fail
    refine (eos7i w5 _ 0 (n0 + n1 + n2) (n0 + n1 + n2) (xs ++ zs ++ ys) _ (n0 + s) (by omega) HROW.out (by omega) (by omega)).mono ?_
    rintro e w' ⟨rfl, rfl⟩
    have hII := HI.out
    rw [HX.out.1, HLZ.out, HROW.out.1] at hII
    have hI := hII.1 hlt
    generalize eos (xs ++ zs ++ ys) (n0 + s) = e1 at hI ⊢
    clear hII
    go_wp2_with fail
    go_ret
    exact ⟨by simp, B5.out.1⟩
  · generalize eos zs s = e0 at *
    go_wp2_with (at_builtin; refine wpList_append_fits_any _ rfl (.tmp 82) (.tmp 83) 22 rfl W1.heap.size 5 i0 1 Try.underlying22 hi hz1 W1.heap.size 0 (n0 + n1 + n2) [] rfl ho2 a0 n0 c0 (xs.map (Value.int .u8)) rfl (by simp [HX.out.1]) HX.out.2.1 (HX.out.below B2.out.1 (Nat.le_refl _)).cells (ints_oneCell _ _) (by omega) ?_)
    intro w3 ho3 hg3
    have B3 : Hid _ := gstep HB.out.size B2.out.1 B2.out.2 hg3
    clear hg3 ho2 B2
    go_wp2_with (at_builtin; refine wpList_append_fits_any _ rfl (.tmp 85) (.tmp 86) 22 rfl W1.heap.size 5 i0 1 Try.underlying22 hi hz1 W1.heap.size n0 (n0 + n1 + n2) (xs.map (Value.int .u8)) rfl ho3 (some ⟨w.heap.size, 0, none⟩) n1 n1 (zs.map (Value.int .u8)) rfl (by simp [HLZ.out]) (fun e => by cases e) ((HR.out.src (cap := n1)).below B3.out.2 (Nat.le_refl _)).cells (ints_oneCell _ _) (by omega) ?_)
    intro w4 ho4 hg4
    have B4 : Hid _ := gstep HB.out.size B3.out.1 B3.out.2 hg4
    clear hg4 ho3 B3
    go_wp2_with (at_builtin; refine wpList_append_fits_any _ rfl (.tmp 88) (.tmp 89) 22 rfl W1.heap.size 5 i0 1 Try.underlying22 hi hz1 W1.heap.size (n0 + n1) (n0 + n1 + n2) _ rfl ho4 a2 n2 c2 (ys.map (Value.int .u8)) rfl (by simp [HY.out.1]) HY.out.2.1 (HY.out.below B4.out.1 (Nat.le_refl _)).cells (ints_oneCell _ _) (by omega) ?_)
    intro w5 ho5 hg5
    have B5 : Hid _ := gstep HB.out.size B4.out.1 B4.out.2 hg5
    clear hg5 ho4 B4
    have hrow : RowAt w5 W1.heap.size 0 (n0 + n1 + n2) (xs ++ zs ++ ys) := row_of_own (base := W1.heap.size) (cap := n0 + n1 + n2) (by rw [List.map_append, List.map_append, List.append_assoc]; exact ho5)
    have HROW : Hid _ := hrow
    clear hrow ho5
    go_wp2_with fail
    refine (eos7i w5 _ 0 (n0 + n1 + n2) (n0 + n1 + n2) (xs ++ zs ++ ys) _ (n0 + s) (by omega) HROW.out (by omega) (by omega)).mono ?_
    rintro e w' ⟨rfl, rfl⟩
    have hII := HI.out
    rw [HX.out.1, HLZ.out, HROW.out.1] at hII
    have hI := hII.2 hlt
    generalize eos (xs ++ zs ++ ys) (n0 + s) = e1 at hI ⊢
    clear hII
    go_wp2_with fail
    go_ret
    exact ⟨by simp; omega, B5.out.1⟩
end Go.Proofs.Qxb6617426a
