/-
  Seat b6617423a: the walk of '(NodeRecord).parts' (function 12) and of 'ZZParts' (function 8).
-/
import Derived.Test.Qxb6617423aParts
namespace Go.Proofs.Qxb6617423a
open Go.ChangeShapes Go.WideShapes Go.ChangeAt Go.RowKit

theorem info31 : (Try.prog.info? 31).map (fun i => (i.zero, i.size, i.bytes)) = some (some (.slice none 0 0), 1, 24) := by kernel_rfl

/-- the slice value that '[]byte(s)' makes in w. -/
abbrev cvV (w : World) (s : ByteArray) (n : Nat) : Value := .slice (some ⟨n, 0, none⟩) s.size (cvCap w s)

theorem start3 (w : World) (o : Obj) (a p i : ByteArray) :
    let W3 := cvW (cvW (cvW (w.alloc o) a) p) i
    let vs := [cvV (w.alloc o) a (w.heap.size + 1), cvV (cvW (w.alloc o) a) p (w.heap.size + 1 + 1), cvV (cvW (cvW (w.alloc o) a) p) i (w.heap.size + 1 + 1 + 1)]
    (W3.alloc (.cells vs.toArray 31)).ownsRow w.heap.size 31 1 (.slice (some ⟨w.heap.size + 1 + 1 + 1 + 1, 0, none⟩) 3 3) 3 vs ∧ AllIn (W3.alloc (.cells vs.toArray 31)) vs [a, p, i] ∧ Below w.heap.size w (W3.alloc (.cells vs.toArray 31)) := by
  intro W3 vs
  have z0 : (w.alloc o).heap.size = w.heap.size + 1 := by simp
  have z1 : (cvW (w.alloc o) a).heap.size = w.heap.size + 1 + 1 := by rw [cv_size, z0]
  have z2 : (cvW (cvW (w.alloc o) a) p).heap.size = w.heap.size + 1 + 1 + 1 := by rw [cv_size, z1]
  have z3 : W3.heap.size = w.heap.size + 1 + 1 + 1 + 1 := by show (cvW _ i).heap.size = _; rw [cv_size, z2]
  refine ⟨?_, ?_, ?_⟩
  · have := World.ownsRow_lit (base := w.heap.size) (e := 31) (size := 1) W3 vs.toArray 3 (by omega) (by simp [maxLen]) rfl
    rw [z3] at this
    exact this
  · refine AllIn.alloc ?_ _
    have h0 : AllIn (w.alloc o) [] [] := ⟨rfl, fun i v s h => by simp at h⟩
    have h1 := (h0.cv a).snoc (cv_in (w.alloc o) a)
    rw [z0] at h1
    have h2 := (h1.cv p).snoc (cv_in _ p)
    rw [z1] at h2
    have h3 := (h2.cv i).snoc (cv_in _ i)
    rw [z2] at h3
    exact h3
  · exact (below_cv (below_cv (below_cv ((Below.refl _ _).alloc (Nat.le_refl _) _) (by omega) a) (by omega) p) (by omega) i).alloc (by show _ ≤ W3.heap.size; omega) _

theorem step1 {w wr w1 : World} {v : Value} {n : Nat} {vs : List Value} {ss : List ByteArray} (s : ByteArray) (hb : Below w.heap.size w wr)
    (ho : wr.ownsRow w.heap.size 31 1 v n vs) (ha : AllIn wr vs ss)
    (hg : ((cvW wr s).alloc (.cells #[cvV wr s wr.heap.size] 31)).grownBy w1 v.ownBlock) :
    AllIn w1 (vs ++ [cvV wr s wr.heap.size]) (ss ++ [s]) ∧ Below w.heap.size w w1 := by
  have hz := cv_size wr s
  have hs := hb.size
  have oW := (owns_cv ho s).alloc (.cells #[cvV wr s wr.heap.size] 31)
  have aW := ((ha.cv s).snoc (cv_in wr s)).alloc (.cells #[cvV wr s wr.heap.size] 31)
  refine ⟨aW.grown oW hg, ?_⟩
  exact ((below_cv hb hs s).alloc (by omega) _).grown hg (by rw [World.size_alloc]; omega) (fun k hk => (oW.lt k hk).1)

theorem new_cell (wr : World) (s : ByteArray) (v : Value) : ((cvW wr s).alloc (.cells #[v] 31)).cell? ((⟨wr.heap.size + 1, 0, none⟩ : Addr).add 0) = some v := by
  rw [Addr.add_lit, World.cell?_alloc_at _ _ _ _ (cv_size wr s).symm]
  rfl

theorem owns_base {w : World} {base base' : Nat} {e : TypeId} {size : Nat} {v : Value} {n : Nat} {xs : List Value} (h : w.ownsRow base e size v n xs) (hb : base' ≤ base) : w.ownsRow base' e size v n xs := by
  refine ⟨h.1, ?_⟩
  rcases h.2 with h' | ⟨g, cap, cur, hv, hg, rest⟩
  · exact .inl h'
  · exact .inr ⟨g, cap, cur, hv, Nat.le_trans hb hg, rest⟩

theorem take_snoc {α : Type} (l : List α) (d : α) (k : Nat) (h : k < l.length) : l.take k ++ [l.getD k d] = l.take (k + 1) := by
  rw [List.take_succ_eq_append_getElem h]
  simp [List.getD, h]

set_option maxHeartbeats 800000 in
theorem parts_any (w : World) (a p i : ByteArray) (pa : Option Addr) (pl pc : Nat) (ps : List ByteArray) (hl : ps.length = pl) (hpl : pl ≤ 1048576)
    (hp : 0 < pl → ∃ b off, pa = some ⟨b, off, none⟩ ∧ ∀ j, j < pl → w.cell? ⟨b, off + j, none⟩ = some (.string (ps.getD j ByteArray.empty))) :
    Calls Try.prog 12 #[.agg #[.string a, .slice pa pl pc, .string p, .string i]] w fun e w' => ∃ v vs, e = .returned v ∧
      w'.ownsRow w.heap.size 31 1 v (3 + pl) vs ∧ AllIn w' vs (a :: p :: i :: ps) ∧ Below w.heap.size w w' := by
  have HP : Hid _ := hp
  clear hp
  have hcv := run_cv
  have hsz := cv_size
  have hce := cv_cell
  have HL : Hid _ := hl
  clear hl
  obtain ⟨i0, hi, hz0, hz1, hz2⟩ := info_parts info31
  go_enter Try.func12, Try.ntmps12
  go_wp2_with fail
  go_loopw [3, 19] (fun v c wr => ∃ (k : Nat) (vs : List Value), k ≤ pl ∧ c = .int .i64 k ∧ wr.ownsRow w.heap.size 31 1 v (3 + k) vs ∧ AllIn wr vs (a :: p :: i :: ps.take k) ∧ Below w.heap.size w wr)
    (fun _ c _ => pl - (intOf c).toNat)
  case atStart =>
    have := start3 w (.cells #[Value.string a, Value.slice pa pl pc, Value.string p, Value.string i] 27) a p i
    exact ⟨0, _, Nat.zero_le _, rfl, this.1, this.2.1, this.2.2⟩
  case round =>
    obtain ⟨k, vs, hk, rfl, hown, hall, hbel⟩ := hrel
    by_cases hlt : k < pl
    · obtain ⟨b, off, rfl, hc⟩ := HP.out (by omega)
      have hck := hc k hlt
      clear hc
      have hbl : b < w.heap.size := World.block_lt_of_cell? w _ hck
      have hcx : wr.cell? ⟨b, off + k, none⟩ = some (.string (ps.getD k ByteArray.empty)) := (hbel.cell (by exact hbl)).trans hck
      have hts := take_snoc ps ByteArray.empty k (by rw [HL.out]; exact hlt)
      have HT : Hid _ := hts
      clear hts hck
      generalize ps.getD k ByteArray.empty = s at hcx HT
      go_wp2_with (at_builtin; refine wpList_append_own _ rfl (.tmp 23) (.tmp 26) 22 rfl w.heap.size 31 i0 (.slice none 0 0) 1 24 Try.underlying22 hi hz0 hz1 hz2 rfl (by decide) _ _ _ rfl ((owns_cv hown s).alloc _) ⟨wr.heap.size + 1, 0, none⟩ 1 1 [cvV wr s wr.heap.size] rfl rfl ?c1 ?c2 ?c3 ?c4 ?c5 ?_)
      case c1 =>
        intro j u hj
        match j, hj with
        | 0, hj =>
          simp at hj
          subst hj
          exact new_cell wr s _
      case c2 => intro u hu; simp at hu; subst hu; rfl
      case c3 => unfold maxLen; omega
      case c4 => omega
      case c5 => have := hbel.size; simp [cv_size]; omega
      · intro v' w1 hown' hgrow _
        have R := step1 s hbel hown hall hgrow
        clear hgrow hown hall hbel hcx
        go_wp2_with fail
        go_roundw
        case rel => exact ⟨k + 1, _, by omega, by go_num, hown', by rw [← HT.out]; exact R.1, R.2⟩
        case measure => simp [intOf]; omega
    · go_wp2_with fail
      go_ret
      have hkk : k = pl := by omega
      subst hkk
      exact ⟨_, _, rfl, hown, by rw [List.take_of_length_le (by rw [HL.out]; exact Nat.le_refl _)] at hall; exact hall, hbel⟩

set_option maxHeartbeats 400000 in
theorem zzparts_any (w : World) (a p i : ByteArray) (pa : Option Addr) (pl pc : Nat) (ps : List ByteArray) (hl : ps.length = pl) (hpl : pl ≤ 1048576)
    (hp : 0 < pl → ∃ b off, pa = some ⟨b, off, none⟩ ∧ ∀ j, j < pl → w.cell? ⟨b, off + j, none⟩ = some (.string (ps.getD j ByteArray.empty))) :
    Calls Try.prog 8 #[.agg #[.string a, .slice pa pl pc, .string p, .string i]] w fun e w' => ∃ v vs, e = .returned v ∧
      w'.ownsRow w.heap.size 31 1 v (3 + pl) vs ∧ AllIn w' vs (a :: p :: i :: ps) ∧ Below w.heap.size w w' := by
  have HP : Hid _ := hp
  have HL : Hid _ := hl
  clear hp hl
  go_enter Try.func8, Try.ntmps8
  go_wp2_with fail
  refine (parts_any _ a p i pa pl pc ps HL.out hpl ?_).mono ?_
  · intro h0
    obtain ⟨b, off, hpa, hc⟩ := HP.out h0
    exact ⟨b, off, hpa, fun j hj => by rw [World.cell?_alloc_lt _ _ _ (World.block_lt_of_cell? w _ (hc j hj))]; exact hc j hj⟩
  · rintro e w' ⟨v, vs, rfl, hown, hall, hbel⟩
    go_wp2_with fail
    go_ret
    have hz : (w.alloc (Obj.cells #[Value.string a, Value.slice pa pl pc, Value.string p, Value.string i] 27)).heap.size = w.heap.size + 1 := World.size_alloc _ _
    exact ⟨_, _, rfl, owns_base hown (by omega), hall, ((Below.refl _ _).alloc (Nat.le_refl _) _).trans (hbel.mono (by omega))⟩
end Go.Proofs.Qxb6617423a
