/-
  Seat b6617423a: the walk of 'recordOf' (function 11) and of 'ZZRecordOf' (function 7).
-/
import Derived.Test.Qxb6617423aWalkParts
namespace Go.Proofs.Qxb6617423a
open Go.ChangeShapes Go.WideShapes Go.ChangeAt Go.RowKit

theorem info9 : (Try.prog.info? 9).map (fun i => (i.zero, i.size, i.bytes)) = some (some (.string ⟨#[]⟩), 1, 16) := by kernel_rfl

/-- element j of the first k, or the empty string. -/
def nth (ss : List ByteArray) (k j : Nat) : ByteArray := (ss.take k).getD j ⟨#[]⟩

/-- what recordOf has read of the first k parts. -/
structure RecAt (w wr : World) (ss : List ByteArray) (k : Nat) (pv : Value) : Prop where
  r : wr.heap[w.heap.size + 1]? = some (Obj.cells #[.string (nth ss k 0), pv, .string ⟨#[]⟩, .string (nth ss k 2)] 27 (0, 0))
  res : wr.heap[w.heap.size]? = some (Obj.cells #[.string ⟨#[]⟩, .slice none 0 0, .string ⟨#[]⟩, .string ⟨#[]⟩] 27 (0, 0))
  own : wr.ownsRow (w.heap.size + 2) 9 1 pv (k - 3) (((ss.take k).drop 3).map Value.string)
  bel : Below w.heap.size w wr
  nil : pv = .slice none 0 0 ↔ k ≤ 3

theorem own_shape {w : World} {base : Nat} {e : TypeId} {size : Nat} {v : Value} {n : Nat} {xs : List Value} (h : w.ownsRow base e size v n xs) : ∃ ao c, v = .slice ao n c := by
  rcases h.2 with ⟨rfl, rfl⟩ | ⟨g, cap, cur, rfl, _⟩
  · exact ⟨_, _, rfl⟩
  · exact ⟨_, _, rfl⟩

theorem frozen_row {w : World} {g : Nat} {cur : Array Value} {e : TypeId} (h : w.heap[g]? = some (Obj.cells cur e (0, 0))) (o : Nat) : w.frozen? ⟨g, o, none⟩ = false := by simp [World.frozen?, h]

theorem nth_other (ss : List ByteArray) (k j : Nat) (h : j ≠ k) : nth ss (k + 1) j = nth ss k j := by
  unfold nth
  simp only [List.getD_eq_getElem?_getD, List.getElem?_take]
  by_cases hj : j < k
  · rw [if_pos hj, if_pos (by omega)]
  · rw [if_neg hj, if_neg (by omega)]

theorem nth_same (ss : List ByteArray) (k : Nat) : nth ss (k + 1) k = ss.getD k ⟨#[]⟩ := by
  unfold nth
  simp only [List.getD_eq_getElem?_getD, List.getElem?_take]
  rw [if_pos (by omega)]

theorem drop3_short (ss : List ByteArray) (k : Nat) (h : k ≤ 3) : (ss.take k).drop 3 = [] := by
  apply List.drop_eq_nil_of_le
  have := List.length_take_le k ss
  omega

theorem drop3_snoc (ss : List ByteArray) (k : Nat) (h : 3 ≤ k) (hk : k < ss.length) : (ss.take (k + 1)).drop 3 = (ss.take k).drop 3 ++ [ss.getD k ⟨#[]⟩] := by
  rw [← take_snoc ss ⟨#[]⟩ k hk, List.drop_append_of_le_length (by rw [List.length_take]; omega)]

/-- a store into field j of the record. -/
theorem rec_store {w wr : World} {ss : List ByteArray} {k : Nat} {pv : Value} (R : RecAt w wr ss k pv) (hk : k < 3) (j : Nat) (u : Value)
    (hu : (#[.string (nth ss k 0), pv, .string ⟨#[]⟩, .string (nth ss k 2)] : Array Value).setIfInBounds j u = #[.string (nth ss (k + 1) 0), pv, .string ⟨#[]⟩, .string (nth ss (k + 1) 2)]) :
    RecAt w (wr.setCell ⟨w.heap.size + 1, j, none⟩ u) ss (k + 1) pv := by
  have hpv : pv = .slice none 0 0 := R.nil.2 (by omega)
  refine ⟨?_, ?_, ?_, R.bel.setCell (by simp) u, ⟨fun _ => by omega, fun _ => hpv⟩⟩
  · rw [heap_setCell_same wr _ j _ 27 u R.r, hu]
  · rw [Below.heap_setCell _ _ _ _ (by simp)]
    exact R.res
  · have o := ownsRow_setCell_below R.own (a := ⟨w.heap.size + 1, j, none⟩) (by simp) u
    rw [drop3_short ss k (by omega)] at o
    rw [drop3_short ss (k + 1) (by omega)]
    rw [show k + 1 - 3 = k - 3 by omega]
    exact o

/-- the second part turns nothing in memory. -/
theorem rec_second {w wr : World} {ss : List ByteArray} {pv : Value} (R : RecAt w wr ss 1 pv) : RecAt w wr ss 2 pv := by
  refine ⟨?_, R.res, ?_, R.bel, ⟨fun _ => by omega, fun _ => R.nil.2 (by omega)⟩⟩
  · rw [nth_other ss 1 0 (by omega), nth_other ss 1 2 (by omega)]
    exact R.r
  · have o := R.own
    rw [drop3_short ss 1 (by omega)] at o
    rw [drop3_short ss 2 (by omega)]
    exact o

/-- behind the append, and the store of its value. -/
theorem rec_peer {w wr w1 : World} {ss : List ByteArray} {k : Nat} {pv v' : Value} (R : RecAt w wr ss k pv) (h3 : 3 ≤ k) (hk : k < ss.length) (o : Obj)
    (hown : w1.ownsRow (w.heap.size + 2) 9 1 v' (k - 3 + 1) (((ss.take k).drop 3).map Value.string ++ [.string (ss.getD k ⟨#[]⟩)]))
    (hg : (wr.alloc o).grownBy w1 pv.ownBlock) (hnil : v' = .slice none 0 0 → False) :
    w1.heap[w.heap.size + 1]? = some (Obj.cells #[.string (nth ss k 0), pv, .string ⟨#[]⟩, .string (nth ss k 2)] 27 (0, 0)) ∧
    RecAt w (w1.setCell ⟨w.heap.size + 1, 1, none⟩ v') ss (k + 1) v' := by
  have hlo : ∀ g, g < w.heap.size + 2 → some g ≠ pv.ownBlock := fun g hg' e => by
    have := (R.own.lt g e.symm).1
    omega
  have hs1 := lt_of_heap R.r
  have hs0 := lt_of_heap R.res
  have a1 : w1.heap[w.heap.size + 1]? = some (Obj.cells #[.string (nth ss k 0), pv, .string ⟨#[]⟩, .string (nth ss k 2)] 27 (0, 0)) := by
    rw [hg.block _ (by rw [World.size_alloc]; omega) (hlo _ (by omega)), Below.heap_alloc _ _ _ hs1]
    exact R.r
  have a0 : w1.heap[w.heap.size]? = some (Obj.cells #[.string ⟨#[]⟩, .slice none 0 0, .string ⟨#[]⟩, .string ⟨#[]⟩] 27 (0, 0)) := by
    rw [hg.block _ (by rw [World.size_alloc]; omega) (hlo _ (by omega)), Below.heap_alloc _ _ _ hs0]
    exact R.res
  refine ⟨a1, ?_, ?_, ?_, ?_, ⟨fun h => (hnil h).elim, fun h => by omega⟩⟩
  · rw [heap_setCell_same w1 _ 1 _ 27 v' a1, nth_other ss k 0 (by omega), nth_other ss k 2 (by omega)]
    rfl
  · rw [Below.heap_setCell _ _ _ _ (by simp)]
    exact a0
  · have o' := ownsRow_setCell_below hown (a := ⟨w.heap.size + 1, 1, none⟩) (by simp) v'
    rw [drop3_snoc ss k h3 hk, List.map_append]
    rw [show k + 1 - 3 = k - 3 + 1 by omega]
    exact o'
  · have hb := R.bel.size
    exact ((R.bel.alloc hb o).grown hg (by rw [World.size_alloc]; omega) (fun g hg' => by have := (R.own.lt g hg').1; omega)).setCell (by simp) v'

theorem rec_start (w : World) (ss : List ByteArray) :
    RecAt w ((w.alloc (.cells #[.string ⟨#[]⟩, .slice none 0 0, .string ⟨#[]⟩, .string ⟨#[]⟩] 27)).alloc (.cells #[.string ⟨#[]⟩, .slice none 0 0, .string ⟨#[]⟩, .string ⟨#[]⟩] 27)) ss 0 (.slice none 0 0) := by
  refine ⟨?_, ?_, World.ownsRow_nil _ _ _ _, ((Below.refl _ _).alloc (Nat.le_refl _) _).alloc (by simp) _, ⟨fun _ => by omega, fun _ => rfl⟩⟩
  · have := heap_alloc_new (w.alloc (.cells #[.string ⟨#[]⟩, .slice none 0 0, .string ⟨#[]⟩, .string ⟨#[]⟩] 27)) (.cells #[.string ⟨#[]⟩, .slice none 0 0, .string ⟨#[]⟩, .string ⟨#[]⟩] 27)
    rw [World.size_alloc] at this
    exact this
  · rw [Below.heap_alloc _ _ _ (by simp)]
    exact heap_alloc_new w _

theorem four_set {w : World} {b : Nat} {a0 a1 a2 a3 : Value} (h : w.heap[b]? = some (Obj.cells #[a0, a1, a2, a3] 27 (0, 0))) (u0 u1 u2 u3 : Value) :
    ((((w.setCell ⟨b, 0, none⟩ u0).setCell ⟨b, 1, none⟩ u1).setCell ⟨b, 2, none⟩ u2).setCell ⟨b, 3, none⟩ u3).heap[b]? = some (Obj.cells #[u0, u1, u2, u3] 27 (0, 0)) :=
  heap_setCell_same _ b 3 _ 27 u3 (heap_setCell_same _ b 2 _ 27 u2 (heap_setCell_same _ b 1 _ 27 u1 (heap_setCell_same w b 0 _ 27 u0 h)))

theorem new_str (wr : World) (v : Value) : (wr.alloc (.cells #[v] 9)).cell? ((⟨wr.heap.size, 0, none⟩ : Addr).add 0) = some v := by
  rw [Addr.add_lit, World.cell?_alloc_at _ _ _ _ rfl]
  rfl

set_option maxHeartbeats 800000 in
theorem rec_any (w : World) (pa : Option Addr) (n cap : Nat) (ss : List ByteArray) (hl : ss.length = n) (hn : n ≤ 1048579)
    (hp : 0 < n → ∃ b off, pa = some ⟨b, off, none⟩ ∧ ∀ j, j < n → ∃ v, w.cell? ⟨b, off + j, none⟩ = some v ∧ IsBytes w v (ss.getD j ⟨#[]⟩)) :
    Calls Try.prog 11 #[.slice pa n cap] w fun e w' => ∃ pv, e = .returned (.tuple #[.agg #[.string (nth ss n 0), pv, .string ⟨#[]⟩, .string (nth ss n 2)], .string (nth ss n 1)]) ∧
      w'.ownsRow w.heap.size 9 1 pv (n - 3) ((ss.drop 3).map Value.string) ∧ (pv = .slice none 0 0 ↔ n ≤ 3) ∧ Below w.heap.size w w' := by
  have HP : Hid _ := hp
  clear hp
  have HL : Hid _ := hl
  clear hl
  obtain ⟨i0, hi, hz0, hz1, hz2⟩ := info_parts info9
  go_enter Try.func11, Try.ntmps11
  go_wp2_with fail
  go_loopw [5, 10] (fun sec c wr => ∃ (k : Nat) (pv : Value), k ≤ n ∧ c = .int .i64 k ∧ sec = .string (nth ss k 1) ∧ RecAt w wr ss k pv)
    (fun _ c _ => n - (intOf c).toNat)
  case atStart =>
    exact ⟨0, .slice none 0 0, Nat.zero_le _, rfl, rfl, rec_start w ss⟩
  case round =>
    obtain ⟨k, pv, hk, rfl, rfl, R⟩ := hrel
    by_cases hlt : k < n
    · obtain ⟨b, off, rfl, hc⟩ := HP.out (by omega)
      obtain ⟨v, hck, hib⟩ := hc k hlt
      clear hc
      have hbl : b < w.heap.size := World.block_lt_of_cell? w _ hck
      have hib' := hib.below R.bel (Nat.le_refl _)
      have hback := run_back hib'
      obtain ⟨ao, vc, rfl, _, _⟩ := hib
      have hcx : wr.cell? ⟨b, off + k, none⟩ = some _ := (R.bel.cell (by exact hbl)).trans hck
      have hkl : k < ss.length := by rw [HL.out]; exact hlt
      clear hib' hck
      have HN : Hid (∀ x, ss.getD k ⟨#[]⟩ = x → nth ss (k + 1) k = x) := fun x hx => (nth_same ss k).trans hx
      generalize hs : ss.getD k ⟨#[]⟩ = s at *
      have HS : Hid _ := hs
      clear hs
      have f1 := frozen_row R.r
      obtain ⟨po, pc, rfl⟩ := own_shape R.own
      have c0 : wr.cell? ⟨w.heap.size + 1, 0, none⟩ = some (.string (nth ss k 0)) := by simp [World.cell?, R.r]
      have c1 : wr.cell? ⟨w.heap.size + 1, 1, none⟩ = some (.slice po (k - 3) pc) := by simp [World.cell?, R.r]
      have c3 : wr.cell? ⟨w.heap.size + 1, 3, none⟩ = some (.string (nth ss k 2)) := by simp [World.cell?, R.r]
      clear HP
      rcases (show k < 1 ∨ (1 ≤ k ∧ k < 2) ∨ (2 ≤ k ∧ k < 3) ∨ 3 ≤ k by omega) with h | ⟨h, h'⟩ | ⟨h, h'⟩ | h
      · go_wp2_with fail
        go_roundw
        case rel =>
          have e : k = 0 := by omega
          subst e
          exact ⟨1, _, by omega, by go_num, by rw [nth_other ss 0 1 (by omega)], rec_store R (by omega) 0 _ (by rw [nth_same, HS.out, nth_other ss 0 2 (by omega)]; rfl)⟩
        case measure => simp [intOf]; omega
      · go_wp2_with fail
        go_roundw
        case rel =>
          have e : k = 1 := by omega
          subst e
          exact ⟨2, _, by omega, by go_num, by rw [nth_same, HS.out], rec_second R⟩
        case measure => simp [intOf]; omega
      · go_wp2_with fail
        go_roundw
        case rel =>
          have e : k = 2 := by omega
          subst e
          exact ⟨3, _, by omega, by go_num, by rw [nth_other ss 2 1 (by omega)], rec_store R (by omega) 3 _ (by rw [nth_same, HS.out, nth_other ss 2 0 (by omega)]; rfl)⟩
        case measure => simp [intOf]; omega
      · go_wp2_with (at_builtin; refine wpList_append_own _ rfl (.tmp 17) (.tmp 20) 25 rfl (w.heap.size + 2) 9 i0 (.string ⟨#[]⟩) 1 16 Try.underlying25 hi hz0 hz1 hz2 rfl (by decide) _ _ _ rfl (R.own.alloc _) ⟨wr.heap.size, 0, none⟩ 1 1 [.string s] rfl rfl ?c1 ?c2 ?c3 ?c4 ?c5 ?_)
        case c1 =>
          intro j u hj
          match j, hj with
          | 0, hj =>
            simp at hj
            subst hj
            exact new_str wr _
        case c2 => intro u hu; simp at hu; subst hu; rfl
        case c3 => unfold maxLen; omega
        case c4 => omega
        case c5 => have := lt_of_heap R.r; simp; omega
        · intro v' w1 hown' hgrow hnil
          have R' := rec_peer R h hkl _ (by rw [HS.out, List.map_drop, List.map_take]; exact hown') hgrow hnil
          obtain ⟨po', pc', rfl⟩ := own_shape hown'
          have f1' := frozen_row R'.1
          have c1' : w1.cell? ⟨w.heap.size + 1, 1, none⟩ = some (.slice po (k - 3) pc) := by simp [World.cell?, R'.1]
          have RR : Hid _ := R'.2
          clear hnil hgrow hown' R' R f1 c0 c1 c3 hcx hback
          go_wp2_with fail
          go_roundw
          case rel =>
            exact ⟨k + 1, _, by omega, by go_num, by rw [nth_other ss k 1 (by omega)], RR.out⟩
          case measure => simp [intOf]; omega
    · have hkk : k = n := by omega
      subst hkk
      obtain ⟨po, pc, rfl⟩ := own_shape R.own
      have f0 := frozen_row R.res
      have f1 := frozen_row R.r
      have b0 : wr.cell? ⟨w.heap.size, 0, none⟩ = some (.string ⟨#[]⟩) := by simp [World.cell?, R.res]
      have b1 : wr.cell? ⟨w.heap.size, 1, none⟩ = some (.slice none 0 0) := by simp [World.cell?, R.res]
      have b2 : wr.cell? ⟨w.heap.size, 2, none⟩ = some (.string ⟨#[]⟩) := by simp [World.cell?, R.res]
      have b3 : wr.cell? ⟨w.heap.size, 3, none⟩ = some (.string ⟨#[]⟩) := by simp [World.cell?, R.res]
      have c0 : wr.cell? ⟨w.heap.size + 1, 0, none⟩ = some (.string (nth ss k 0)) := by simp [World.cell?, R.r]
      have c1 : wr.cell? ⟨w.heap.size + 1, 1, none⟩ = some (.slice po (k - 3) pc) := by simp [World.cell?, R.r]
      have c2 : wr.cell? ⟨w.heap.size + 1, 2, none⟩ = some (.string ⟨#[]⟩) := by simp [World.cell?, R.r]
      have c3 : wr.cell? ⟨w.heap.size + 1, 3, none⟩ = some (.string (nth ss k 2)) := by simp [World.cell?, R.r]
      go_wp2_with fail
      have o4 := ownsRow_setCell_below (ownsRow_setCell_below (ownsRow_setCell_below (ownsRow_setCell_below R.own (a := ⟨w.heap.size, 0, none⟩) (by simp) (.string (nth ss k 0))) (a := ⟨w.heap.size, 1, none⟩) (by simp) (.slice po (k - 3) pc)) (a := ⟨w.heap.size, 2, none⟩) (by simp) (.string ⟨#[]⟩)) (a := ⟨w.heap.size, 3, none⟩) (by simp) (.string (nth ss k 2))
      have e4 : ss.take k = ss := List.take_of_length_le (by rw [HL.out]; exact Nat.le_refl _)
      rw [e4] at o4
      have W4 := four_set R.res (.string (nth ss k 0)) (.slice po (k - 3) pc) (.string ⟨#[]⟩) (.string (nth ss k 2))
      have B4 := ((((R.bel.setCell (p := ⟨w.heap.size, 0, none⟩) (by simp) (.string (nth ss k 0))).setCell (p := ⟨w.heap.size, 1, none⟩) (by simp) (.slice po (k - 3) pc)).setCell (p := ⟨w.heap.size, 2, none⟩) (by simp) (.string ⟨#[]⟩)).setCell (p := ⟨w.heap.size, 3, none⟩) (by simp) (.string (nth ss k 2)))
      generalize ((((wr.setCell ⟨w.heap.size, 0, none⟩ (.string (nth ss k 0))).setCell ⟨w.heap.size, 1, none⟩ (.slice po (k - 3) pc)).setCell ⟨w.heap.size, 2, none⟩ (.string ⟨#[]⟩)).setCell ⟨w.heap.size, 3, none⟩ (.string (nth ss k 2))) = W5 at o4 W4 B4 ⊢
      have d0 : W5.cell? ⟨w.heap.size, 0, none⟩ = some (.string (nth ss k 0)) := by simp [World.cell?, W4]
      have d1 : W5.cell? ⟨w.heap.size, 1, none⟩ = some (.slice po (k - 3) pc) := by simp [World.cell?, W4]
      have d2 : W5.cell? ⟨w.heap.size, 2, none⟩ = some (.string ⟨#[]⟩) := by simp [World.cell?, W4]
      have d3 : W5.cell? ⟨w.heap.size, 3, none⟩ = some (.string (nth ss k 2)) := by simp [World.cell?, W4]
      exact bodyPost_ret (v := .tuple #[.agg #[.string (nth ss k 0), .slice po (k - 3) pc, .string ⟨#[]⟩, .string (nth ss k 2)], .string (nth ss k 1)]) (by simp [results, Try.results11, go_sem, d0, d1, d2, d3]) rfl
        ⟨_, rfl, owns_base o4 (by omega), R.nil, B4⟩

set_option maxHeartbeats 800000 in
theorem zzrec_any (w : World) (pa : Option Addr) (n cap : Nat) (ss : List ByteArray) (hl : ss.length = n) (hn : n ≤ 1048579)
    (hp : 0 < n → ∃ b off, pa = some ⟨b, off, none⟩ ∧ ∀ j, j < n → ∃ v, w.cell? ⟨b, off + j, none⟩ = some v ∧ IsBytes w v (ss.getD j ⟨#[]⟩)) :
    Calls Try.prog 7 #[.slice pa n cap] w fun e w' => ∃ pv, e = .returned (.tuple #[.agg #[.string (nth ss n 0), pv, .string ⟨#[]⟩, .string (nth ss n 2)], .string (nth ss n 1)]) ∧
      w'.ownsRow w.heap.size 9 1 pv (n - 3) ((ss.drop 3).map Value.string) ∧ (pv = .slice none 0 0 ↔ n ≤ 3) ∧ Below w.heap.size w w' := by
  have HP : Hid _ := hp
  have HL : Hid _ := hl
  clear hp hl
  go_enter Try.func7, Try.ntmps7
  go_wp2_with fail
  have bel0 := (Below.refl w.heap.size w).alloc (Nat.le_refl _) (.cells #[.string ⟨#[]⟩, .slice none 0 0, .string ⟨#[]⟩, .string ⟨#[]⟩] 27)
  have h0 := heap_alloc_new w (.cells #[.string ⟨#[]⟩, .slice none 0 0, .string ⟨#[]⟩, .string ⟨#[]⟩] 27)
  have hz0 := World.size_alloc w (.cells #[.string ⟨#[]⟩, .slice none 0 0, .string ⟨#[]⟩, .string ⟨#[]⟩] 27)
  generalize w.alloc (.cells #[.string ⟨#[]⟩, .slice none 0 0, .string ⟨#[]⟩, .string ⟨#[]⟩] 27) = w0 at bel0 h0 hz0 ⊢
  have HZ : Hid _ := hz0
  clear hz0
  refine (rec_any w0 pa n cap ss HL.out hn ?_).mono ?_
  · intro hp0
    obtain ⟨b, off, hpa, hc⟩ := HP.out hp0
    refine ⟨b, off, hpa, fun j hj => ?_⟩
    obtain ⟨v, hv, hi⟩ := hc j hj
    exact ⟨v, (bel0.cell (p := ⟨b, off + j, none⟩) (World.block_lt_of_cell? w _ hv)).trans hv, hi.below bel0 (Nat.le_refl _)⟩
  · rintro e w' ⟨pv, rfl, hown, hnil, hbel⟩
    obtain ⟨po, pc, rfl⟩ := own_shape hown
    have hw' : w'.heap[w.heap.size]? = some (Obj.cells #[.string ⟨#[]⟩, .slice none 0 0, .string ⟨#[]⟩, .string ⟨#[]⟩] 27 (0, 0)) := by
      rw [hbel.block _ (by rw [HZ.out]; omega)]
      exact h0
    have f0 := frozen_row hw'
    have b0 : w'.cell? ⟨w.heap.size, 0, none⟩ = some (.string ⟨#[]⟩) := by simp [World.cell?, hw']
    have b1 : w'.cell? ⟨w.heap.size, 1, none⟩ = some (.slice none 0 0) := by simp [World.cell?, hw']
    have b2 : w'.cell? ⟨w.heap.size, 2, none⟩ = some (.string ⟨#[]⟩) := by simp [World.cell?, hw']
    have b3 : w'.cell? ⟨w.heap.size, 3, none⟩ = some (.string ⟨#[]⟩) := by simp [World.cell?, hw']
    have HW : Hid _ := hw'
    have B0 := bel0.trans (hbel.mono (by rw [HZ.out]; omega))
    clear hw' h0
    go_wp2_with fail
    have hg0 : w.heap.size < w0.heap.size := by rw [HZ.out]; omega
    have o4 := ownsRow_setCell_below (ownsRow_setCell_below (ownsRow_setCell_below (ownsRow_setCell_below hown (a := ⟨w.heap.size, 0, none⟩) hg0 (.string (nth ss n 0))) (a := ⟨w.heap.size, 1, none⟩) hg0 (.slice po (n - 3) pc)) (a := ⟨w.heap.size, 2, none⟩) hg0 (.string ⟨#[]⟩)) (a := ⟨w.heap.size, 3, none⟩) hg0 (.string (nth ss n 2))
    have W4 := four_set HW.out (.string (nth ss n 0)) (.slice po (n - 3) pc) (.string ⟨#[]⟩) (.string (nth ss n 2))
    have B4 := ((((B0.setCell (p := ⟨w.heap.size, 0, none⟩) (by simp) (.string (nth ss n 0))).setCell (p := ⟨w.heap.size, 1, none⟩) (by simp) (.slice po (n - 3) pc)).setCell (p := ⟨w.heap.size, 2, none⟩) (by simp) (.string ⟨#[]⟩)).setCell (p := ⟨w.heap.size, 3, none⟩) (by simp) (.string (nth ss n 2)))
    generalize ((((w'.setCell ⟨w.heap.size, 0, none⟩ (.string (nth ss n 0))).setCell ⟨w.heap.size, 1, none⟩ (.slice po (n - 3) pc)).setCell ⟨w.heap.size, 2, none⟩ (.string ⟨#[]⟩)).setCell ⟨w.heap.size, 3, none⟩ (.string (nth ss n 2))) = W5 at o4 W4 B4 ⊢
    have d0 : W5.cell? ⟨w.heap.size, 0, none⟩ = some (.string (nth ss n 0)) := by simp [World.cell?, W4]
    have d1 : W5.cell? ⟨w.heap.size, 1, none⟩ = some (.slice po (n - 3) pc) := by simp [World.cell?, W4]
    have d2 : W5.cell? ⟨w.heap.size, 2, none⟩ = some (.string ⟨#[]⟩) := by simp [World.cell?, W4]
    have d3 : W5.cell? ⟨w.heap.size, 3, none⟩ = some (.string (nth ss n 2)) := by simp [World.cell?, W4]
    exact bodyPost_ret (v := .tuple #[.agg #[.string (nth ss n 0), .slice po (n - 3) pc, .string ⟨#[]⟩, .string (nth ss n 2)], .string (nth ss n 1)]) (by simp [results, Try.results7, go_sem, d0, d1, d2, d3]) rfl
      ⟨_, rfl, owns_base o4 (by omega), hnil, B4⟩
end Go.Proofs.Qxb6617423a
