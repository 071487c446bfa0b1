/-
  Seat b6617442a: the walks of 'zzConcat' (15), 'ends' (24), 'step1b' (21), 'ZZStep1b' (16), 'zzEqual' (17).
-/
import Derived.Test.Qxb6617442aWalks
import Derived.Deep.QuietTactic
import Derived.BigQuiet
import Derived.Laws.IdiomStrings
import Derived.WalkSmall
import Derived.RegionTactic
import Derived.ChangeAlike
namespace Go.Proofs.Qxb6617442a
open Go.ChangeShapes Go.WideShapes Go.ChangeAt Go.RowKit

/-- a string's bytes as numbers. -/
def sb (s : ByteArray) : List Int := s.data.toList.map fun b => (b.toNat : Int)
theorem sb_length (s : ByteArray) : (sb s).length = s.size := by
  unfold sb
  rw [List.length_map]
  rfl
theorem sb_at (s : ByteArray) (k : Nat) (h : k < s.size) : (sb s).getD k 0 = (s[k].toNat : Int) := by
  have h' : k < s.data.toList.length := by simpa using h
  have e : s.data.toList[k] = s[k] := by rw [Array.getElem_toList]; rfl
  simp only [sb, List.getD_eq_getElem?_getD, List.getElem?_map, List.getElem?_eq_getElem h', e]
  rfl

/-- 'make([]byte, 0, len(a)+len(s))'. -/
theorem made (w : World) (n0 n1 : Nat) (h0 : n0 ≤ 4096) (h1 : n1 ≤ 4096) :
    ∃ W0, (Instr.makeSlice 22 (.int .i64 0) (.int .i64 ((n0 : Int) + (n1 : Int)))).run Try.prog w = .ok (.slice (some ⟨w.heap.size, 0, none⟩) 0 (n0 + n1)) W0 ∧
      W0.ownsRow w.heap.size 5 1 (.slice (some ⟨w.heap.size, 0, none⟩) 0 (n0 + n1)) 0 [] ∧ Below w.heap.size w W0 := by
  obtain ⟨i0, hi, hz0, hz1, hz2⟩ := info_parts info5
  obtain ⟨w', hr, ho, hg⟩ := run_make_own (P := Try.prog) w w.heap.size 22 5 i0 (.int .u8 0) 1 Try.underlying22 hi hz0 hz1 .i64 .i64 (n0 + n1) (by rw [hz2]; omega) (by unfold maxLen; omega) (Nat.le_refl _)
  refine ⟨w', ?_, ho, (Below.refl _ _).grown hg (Nat.le_refl _) (by intro k hk; cases hk)⟩
  rw [← hr]
  simp

theorem take_snoc (l : List Int) (k : Nat) (h : k < l.length) : l.take k ++ [l.getD k 0] = l.take (k + 1) := by
  rw [List.take_succ_eq_append_getElem h]
  simp [List.getD_eq_getElem?_getD, h]

theorem new_byte (wr : World) (v : Value) : (wr.alloc (.cells #[v] 5)).cell? ((⟨wr.heap.size, 0, none⟩ : Addr).add 0) = some v := by
  rw [Addr.add_lit, World.cell?_alloc_at _ _ _ _ rfl]
  rfl

theorem one_news (wr : World) (v : Value) : ∀ j u, [v][j]? = some u → (wr.alloc (.cells #[v] 5)).cell? ((⟨wr.heap.size, 0, none⟩ : Addr).add j) = some u := by
  intro j u hj
  match j, hj with
  | 0, hj =>
    simp at hj
    subst hj
    exact new_byte wr _

/-- behind one append that fits. -/
theorem fit_below {w wr w1 : World} {o : Obj} (hb : Below w.heap.size w wr) (hg : (wr.alloc o).grownBy w1 (some w.heap.size)) : Below w.heap.size w w1 :=
  (hb.alloc hb.size o).grown hg (by rw [World.size_alloc]; have := hb.size; omega) (by intro k hk; cases hk; exact Nat.le_refl _)

set_option maxHeartbeats 1600000 in
theorem concat15 (zs : List Int) (w : World) (ao : Option Addr) (len cap : Nat) (h : SrcAt w ao len cap zs) (hl : len ≤ 4096) (s : ByteArray) (hs : s.size ≤ 4096) :
    Calls Try.prog 15 #[.slice ao len cap, .string s] w fun e w' => e = .returned (.slice (some ⟨w.heap.size, 0, none⟩) (len + s.size) (len + s.size)) ∧
      RowAt w' w.heap.size 0 (len + s.size) (zs ++ sb s) ∧ Below w.heap.size w w' := by
  obtain ⟨W0, hm, ho, hb⟩ := made w len s.size hl hs
  obtain ⟨i0, hi, hz0, hz1, hz2⟩ := info_parts info5
  have hlen := h.1
  have HLEN : Hid (zs.length = len) := hlen
  have HO : Hid (W0.ownsRow w.heap.size 5 1 (.slice (some ⟨w.heap.size, 0, none⟩) 0 (len + s.size)) 0 []) := ho
  have HB : Hid (Below w.heap.size w W0) := hb
  clear hlen ho hb
  go_enter Try.func15, Try.ntmps15
  go_wp2_with fail
  go_loopw [5, 6] (fun c i wr => ∃ k : Nat, k ≤ len ∧ i = .int .i64 k ∧ c = .slice (some ⟨w.heap.size, 0, none⟩) k (len + s.size) ∧
      wr.ownsRow w.heap.size 5 1 (.slice (some ⟨w.heap.size, 0, none⟩) k (len + s.size)) k ((zs.take k).map (Value.int .u8)) ∧ Below w.heap.size w wr) (fun _ i _ => len - (intOf i).toNat)
  case atStart => exact ⟨0, Nat.zero_le _, rfl, rfl, HO.out, HB.out⟩
  case round =>
    obtain ⟨k, hk, rfl, rfl, hown, hbel⟩ := hrel
    by_cases hlt : k < len
    · obtain ⟨b, off, rfl, hr⟩ := h.2.2 (by omega)
      have hck := (hr.below hbel (Nat.le_refl _)).2 k hlt
      have HT : Hid _ := take_snoc zs k (by rw [HLEN.out]; exact hlt)
      clear HO HB hr
      generalize zs.getD k 0 = z at hck HT
      go_wp2_with (at_builtin; refine wpList_append_fits _ rfl (.tmp 20) (.tmp 25) 22 rfl w.heap.size 5 i0 1 Try.underlying22 hi hz1 w.heap.size k (len + s.size) _ rfl (hown.alloc _) ⟨wr.heap.size, 0, none⟩ 1 1 [.int .u8 z] rfl rfl (one_news wr _) (by intro u hu; simp at hu; subst hu; rfl) (by omega) ?_)
      intro w1 hown1 hg1
      have hb1 := fit_below hbel hg1
      clear hg1 hown hbel hck
      have ho1 : w1.ownsRow w.heap.size 5 1 (.slice (some ⟨w.heap.size, 0, none⟩) (k + 1) (len + s.size)) (k + 1) ((zs.take (k + 1)).map (Value.int .u8)) := by
        rw [← HT.out, List.map_append, List.map_take]
        exact hown1
      clear hown1
      go_wp2_with fail
      go_roundw
      case rel => exact ⟨k + 1, by omega, by go_num, rfl, ho1, hb1⟩
      case measure => simp [intOf]; omega
    · have hkk : k = len := by omega
      subst hkk
      have ho2 : wr.ownsRow w.heap.size 5 1 (.slice (some ⟨w.heap.size, 0, none⟩) k (k + s.size)) k (zs.map (Value.int .u8)) := by
        rw [List.take_of_length_le (by rw [HLEN.out]; exact Nat.le_refl _)] at hown
        exact hown
      have HO2 : Hid _ := ho2
      have HB2 : Hid _ := hbel
      clear hown HO HB ho2 hbel
      go_wp2_with fail
      go_loopw [5, 7] (fun c i wr => ∃ j : Nat, j ≤ s.size ∧ i = .int .i64 j ∧ c = .slice (some ⟨w.heap.size, 0, none⟩) (k + j) (k + s.size) ∧
          wr.ownsRow w.heap.size 5 1 (.slice (some ⟨w.heap.size, 0, none⟩) (k + j) (k + s.size)) (k + j) ((zs ++ (sb s).take j).map (Value.int .u8)) ∧ Below w.heap.size w wr) (fun _ i _ => s.size - (intOf i).toNat)
      case atStart => exact ⟨0, Nat.zero_le _, rfl, rfl, by rw [List.take_zero, List.append_nil]; exact HO2.out, HB2.out⟩
      case round =>
        obtain ⟨j, hj, rfl, rfl, hown, hbel⟩ := hrel
        by_cases hlt2 : j < s.size
        · have HT : Hid _ := take_snoc (sb s) j (by rw [sb_length]; exact hlt2)
          have HAT : Hid _ := sb_at s j hlt2
          go_wp2_with (at_builtin; refine wpList_append_fits _ rfl (.tmp 33) (.tmp 37) 22 rfl w.heap.size 5 i0 1 Try.underlying22 hi hz1 w.heap.size (k + j) (k + s.size) _ rfl (hown.alloc _) ⟨wr.heap.size, 0, none⟩ 1 1 [.int .u8 (s[j].toNat : Int)] rfl rfl (one_news wr _) (by intro u hu; simp at hu; subst hu; rfl) (by omega) ?_)
          intro w1 hown1 hg1
          have hb1 := fit_below hbel hg1
          clear hg1 hown hbel
          have ho1 : w1.ownsRow w.heap.size 5 1 (.slice (some ⟨w.heap.size, 0, none⟩) (k + (j + 1)) (k + s.size)) (k + (j + 1)) ((zs ++ (sb s).take (j + 1)).map (Value.int .u8)) := by
            rw [← HT.out, HAT.out, List.map_append, List.map_append, List.map_take]
            exact hown1
          clear hown1
          go_wp2_with fail
          go_roundw
          case rel => exact ⟨j + 1, by omega, by go_num, rfl, ho1, hb1⟩
          case measure => simp [intOf]; omega
        · have hjj : j = s.size := by omega
          subst hjj
          rw [List.take_of_length_le (by rw [sb_length]; exact Nat.le_refl _)] at hown
          go_wp2_with fail
          go_ret
          exact ⟨rfl, row_of_own hown, hbel⟩

/-! ### 'zzEqual': two rows of the same numbers -/
set_option maxHeartbeats 800000 in
theorem equal17 (zs : List Int) (w : World) (b1 o1 c1 b2 o2 c2 n : Nat) (h1 : RowAt w b1 o1 n zs) (h2 : RowAt w b2 o2 n zs) (hn : n ≤ 5000) :
    Calls Try.prog 17 #[.slice (some ⟨b1, o1, none⟩) n c1, .slice (some ⟨b2, o2, none⟩) n c2] w fun e w' => e = .returned (.bool true) ∧ ∃ m, w' = w.drewN m := by
  go_enter Try.func17, Try.ntmps17
  go_wp2_with fail
  go_loopw [5] (fun c wr => ∃ (k m : Nat), k ≤ n ∧ c = .int .i64 k ∧ wr = w.drewN m) (fun c _ => n - (intOf c).toNat)
  case atStart => exact ⟨0, 0, Nat.zero_le _, rfl, rfl⟩
  case round =>
    obtain ⟨k, m, hk, rfl, rfl⟩ := hrel
    by_cases hlt : k < n
    · have g1 := h1.2 k hlt
      have g2 := h2.2 k hlt
      clear h1 h2
      generalize zs.getD k 0 = z at g1 g2
      have hb1 : (k : Int) < (n : Int) := by omega
      have hb0 : (0 : Int) ≤ (k : Int) := by omega
      go_wp2_with fail
      go_quiet (fail)
      go_wp2_with fail
      go_roundw
      case rel => exact ⟨k + 1, m + nq, by omega, by go_num, rfl⟩
      case measure => simp [intOf]; omega
    · go_wp2_with fail
      go_ret
      exact ⟨rfl, m, rfl⟩

/-! ### 'ends("eed")' of a word that ends so -/
def eed : List Int := [101, 101, 100]

theorem cv_eed (zs : List Int) (w : World) (b off k n c : Nat) (hr : RowAt w b off n (zs ++ eed)) (hz : zs.length = k) (hk : n = k + 3) (m : Nat) :
    (convert 22 9 (.slice (some ⟨b, off + k, none⟩) (n - k) c)).run Try.prog (w.drewN m) = .ok (.string ⟨#[101, 101, 100]⟩) (w.drewN m) := by
  have := run_convert_bytes_back (P := Try.prog) (w.drewN m) 22 9 5 ⟨b, off + k, none⟩ c [101, 101, 100] Try.underlying22 Try.underlying5 Try.underlying9 (fun j hj => by
    have hj3 : j < 3 := hj
    have hc := hr.2 (k + j) (by omega)
    have e : (zs ++ eed).getD (k + j) 0 = eed.getD j 0 := by
      rw [List.getD_eq_getElem?_getD, List.getElem?_append_right (by omega), List.getD_eq_getElem?_getD]
      congr 2
      omega
    rw [e] at hc
    rw [add_plain]
    show w.cell? _ = _
    rw [Nat.add_assoc, hc]
    match j, hj3 with
    | 0, _ => rfl
    | 1, _ => rfl
    | 2, _ => rfl)
  rw [show n - k = 3 by omega]
  exact this

set_option maxHeartbeats 800000 in
theorem ends24 (zs : List Int) (pb : Nat) (w : World) (b off k n cap : Nat) (hp : w.cell? ⟨pb, 0, none⟩ = some (.slice (some ⟨b, off, none⟩) n cap)) (hr : RowAt w b off n (zs ++ eed)) (hz : zs.length = k) (hk : n = k + 3) (hn : n ≤ 5000) (hcap : n ≤ cap) :
    Calls Try.prog 24 #[.pointer (some ⟨pb, 0, none⟩), .string ⟨#[101, 101, 100]⟩] w fun e w' => e = .returned (.bool true) ∧ ∃ m, w' = w.drewN m := by
  have hcv := fun m => cv_eed zs w b off k n (cap - k) hr hz hk m
  have hwr : IntKind.i64.wrap ((n : Int) - 3) = (k : Int) := by rw [IntKind.wrap_i64]; omega
  have k0 : k + 3 ≤ n := by omega
  have k2 : n ≤ k + 3 := by omega
  have k1 : ((3 : Int) ≤ (n : Int)) := by omega
  have k3 : ((k : Int) ≤ (n : Int)) := by omega
  have k4 : ¬ cap = k := by omega
  clear hz hr hk
  go_enter Try.func24, Try.ntmps24
  go_wp2_with fail
  go_quiet (fail)
  go_wp2_with fail
  go_ret
  exact ⟨rfl, _, rfl⟩

set_option maxHeartbeats 1600000 in
theorem step21 (zs : List Int) (pb : Nat) (w : World) (b off k n cap : Nat) (hp : w.cell? ⟨pb, 0, none⟩ = some (.slice (some ⟨b, off, none⟩) n cap)) (hf : w.frozen? ⟨pb, 0, none⟩ = false)
    (hr : RowAt w b off n (zs ++ eed)) (hz : zs.length = k) (hk : n = k + 3) (hn : n ≤ 5000) (hcap : n ≤ cap) :
    Calls Try.prog 21 #[.pointer (some ⟨pb, 0, none⟩)] w fun e w' => e = .returned (.tuple #[]) ∧ Below pb w w' ∧
      w'.cell? ⟨pb, 0, none⟩ = some (.slice (some ⟨b, off, none⟩) (if 0 < meas zs k then k + 2 else k + 3) cap) := by
  have HW : Hid (∀ m, Word (w.drewN m) pb (zs ++ eed)) := fun m => ⟨some ⟨b, off, none⟩, n, cap, hn, hp, hr.1, fun e => (by cases e), fun _ => ⟨b, off, rfl, hr⟩⟩
  have HR : Hid (RowAt w b off n (zs ++ eed)) := hr
  have HZ : Hid (zs.length = k) := hz
  have HM : Hid (meas (zs ++ eed) k = meas zs k) := meas_append zs eed k (by omega)
  have HLL : Hid ((zs ++ eed).length = n) := hr.1
  have HK : Hid (n = k + 3) := hk
  have k0 : k + 3 ≤ n := by omega
  have k2 : n ≤ k + 3 := by omega
  clear hz hr hk
  go_enter Try.func21, Try.ntmps21
  go_wp2_with fail
  refine (ends24 zs pb w b off k n cap hp HR.out HZ.out HK.out hn hcap).mono ?_
  rintro e w1 ⟨rfl, m, rfl⟩
  go_wp2_with fail
  refine (meas18 (zs ++ eed) pb (w.drewN m) (HW.out m) k _ (by omega) (by rw [HLL.out]; omega) (by rw [HLL.out]; exact hn)).mono ?_
  rintro e w1 ⟨rfl, rfl⟩
  rw [HM.out]
  by_cases hpos : 0 < meas zs k
  · have hwr : IntKind.i64.wrap ((n : Int) - 1) = ((k + 2 : Nat) : Int) := by rw [IntKind.wrap_i64]; omega
    have k3 : (((k + 2 : Nat) : Int) ≤ (n : Int)) := by omega
    have k4 : (k + 2) ≤ cap := by omega
    go_wp2_with fail
    go_region
    go_wp2_with fail
    refine bodyPost_ret (results_none rfl _ _ _) rfl ?_
    exact ⟨rfl, (below_drewN (Below.refl pb w) (m + 1)).setCell (p := ⟨pb, 0, none⟩) (Nat.le_refl _) _, World.cell?_setCell_same (w.drewN (m + 1)) _ _ hp⟩
  · go_wp2_with fail
    refine bodyPost_ret (results_none rfl _ _ _) rfl ?_
    exact ⟨rfl, below_drewN (Below.refl _ _) _, by rw [← HK.out]; exact hp⟩

set_option maxHeartbeats 800000 in
theorem step16 (zs : List Int) (w : World) (b off k n cap : Nat) (hr : RowAt w b off n (zs ++ eed)) (hz : zs.length = k) (hk : n = k + 3) (hn : n ≤ 5000) (hcap : n ≤ cap) :
    Calls Try.prog 16 #[.slice (some ⟨b, off, none⟩) n cap] w fun e w' => e = .returned (.slice (some ⟨b, off, none⟩) (if 0 < meas zs k then k + 2 else k + 3) cap) ∧ Below w.heap.size w w' := by
  generalize hl : (if 0 < meas zs k then k + 2 else k + 3) = l
  have HL : Hid _ := hl
  clear hl
  have b0 := (Below.refl w.heap.size w).alloc (Nat.le_refl _) (.cells #[.slice (some ⟨b, off, none⟩) n cap] 39)
  have hg := heap_alloc_new w (.cells #[.slice (some ⟨b, off, none⟩) n cap] 39)
  have HR : Hid (RowAt (w.alloc (.cells #[.slice (some ⟨b, off, none⟩) n cap] 39)) b off n (zs ++ eed)) := hr.below b0 (Nat.le_refl _)
  have HZ : Hid (zs.length = k) := hz
  have HK : Hid (n = k + 3) := hk
  have HG : Hid _ := hg
  clear hz hr hk hg
  go_enter Try.func16, Try.ntmps16
  go_wp2_with fail
  refine (step21 zs w.heap.size _ b off k n cap (cell_of_one HG.out) (free_of_one HG.out) HR.out HZ.out HK.out hn hcap).mono ?_
  rintro e w1 ⟨rfl, hb1, hc1⟩
  rw [HL.out] at hc1
  go_wp2_with fail
  go_ret
  exact ⟨rfl, b0.trans hb1⟩
end Go.Proofs.Qxb6617442a
