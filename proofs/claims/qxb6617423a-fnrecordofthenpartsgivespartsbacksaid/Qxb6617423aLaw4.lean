/-
  Seat b6617423a: the walks of 'zzBytes_FnPartsThenRecordOfGivesRecordBack' (function 10) and of the law itself (function 4).
-/
import Derived.Test.Qxb6617423aWalkRec
import Derived.Deep.QuietTactic
import Derived.BigQuiet
import Derived.Laws.Cover3
import Derived.WalkSmall
namespace Go.Proofs.Qxb6617423a
open Go.ChangeShapes Go.WideShapes Go.ChangeAt Go.RowKit

/-- a []string that came in: nothing known of its address where it is empty. -/
def StrsAt (w : World) (pa : Option Addr) (pl : Nat) (ps : List ByteArray) : Prop :=
  ps.length = pl ∧ (0 < pl → ∃ b off, pa = some ⟨b, off, none⟩ ∧ ∀ j, j < pl → w.cell? ⟨b, off + j, none⟩ = some (.string (ps.getD j ByteArray.empty)))

/-- a guard's answer: a bool; where it is true, p. Nothing has turned. -/
def Guards (p : Prop) (w : World) (e : Ending) (w' : World) : Prop := ∃ b, e = .returned (.bool b) ∧ w = w' ∧ (b = true → p)
theorem Guards.mk {p : Prop} {w : World} {e : Ending} {b : Bool} (he : e = .returned (.bool b)) (h : b = true → p) : Guards p w e w := ⟨b, he, rfl, h⟩

set_option maxHeartbeats 800000 in
theorem bytes10 (w : World) (a p i : ByteArray) (pa : Option Addr) (pl pc : Nat) (ps : List ByteArray) (hs : StrsAt w pa pl ps) (hpl : pl ≤ 9223372036854775807)
    (ha : a.size ≤ 9223372036854775807) (hp : p.size ≤ 9223372036854775807) (hi : i.size ≤ 9223372036854775807) (hps : ∀ j, (ps.getD j ByteArray.empty).size ≤ 9223372036854775807) :
    Calls Try.prog 10 #[.string a, .slice pa pl pc, .string p, .string i] w fun e w' => Guards (pl ≤ 1048576) w e w' := by
  have HP : Hid _ := hps
  clear hps
  go_enter Try.func10, Try.ntmps10
  go_wp2_with fail
  · go_ret
    exact Guards.mk rfl (by simp)
  · go_ret
    exact Guards.mk rfl (by simp)
  · go_ret
    exact Guards.mk rfl (by simp)
  · go_loop [9, 10] (fun z c => ∃ (k m : Nat), k ≤ pl ∧ m ≤ 1048576 ∧ c = .int .i64 k ∧ z = .int .i64 m) (fun _ c => pl - (intOf c).toNat)
    case atStart => exact ⟨0, a.size + pl, by omega, by omega, rfl, by go_num⟩
    case round =>
      obtain ⟨k, m, hk, hm, rfl, rfl⟩ := hrel
      by_cases hlt : k < pl
      · obtain ⟨b, off, rfl, hc⟩ := hs.2 (by omega)
        have hck := hc k hlt
        have hsz := HP.out k
        clear hc hs
        generalize ps.getD k ByteArray.empty = s at hck hsz
        go_wp2_with fail
        · go_ret
          exact Guards.mk rfl (by simp)
        · go_ret
          exact Guards.mk rfl (by simp)
        · go_round
          case rel => exact ⟨k + 1, m + s.size, by omega, by omega, by go_num, by go_num⟩
          case measure => simp [intOf]; omega
      · go_wp2_with fail
        all_goals
          go_ret
          exact Guards.mk rfl (by omega)

/-- the outer slice that ZZParts hands on, as ZZRecordOf wants it. -/
theorem rows_of_own {w : World} {base : Nat} {v : Value} {n : Nat} {vs : List Value} {ss : List ByteArray} (ho : w.ownsRow base 31 1 v n vs) (ha : AllIn w vs ss) (hn : 0 < n) :
    ∃ g c, v = .slice (some ⟨g, 0, none⟩) n c ∧ ss.length = n ∧ (0 < n → ∃ b off, (some ⟨g, 0, none⟩ : Option Addr) = some ⟨b, off, none⟩ ∧ ∀ j, j < n → ∃ u, w.cell? ⟨b, off + j, none⟩ = some u ∧ IsBytes w u (ss.getD j ⟨#[]⟩)) := by
  have hlen : vs.length = n := by simpa using ho.1
  rcases ho.2 with ⟨_, h0⟩ | ⟨g, cap, cur, rfl, _⟩
  · omega
  · refine ⟨g, cap, rfl, by rw [← ha.1, hlen], fun _ => ⟨g, 0, rfl, fun j hj => ?_⟩⟩
    have hc := ho.cellAt j (by omega)
    have hj1 : j < vs.length := by omega
    have hj2 : j < ss.length := by rw [← ha.1]; omega
    rw [List.getElem?_eq_getElem hj1] at hc
    refine ⟨vs[j], by rw [Nat.zero_add]; exact hc, ?_⟩
    have := ha.2 j vs[j] ss[j] (List.getElem?_eq_getElem hj1) (List.getElem?_eq_getElem hj2)
    rw [List.getD_eq_getElem?_getD, List.getElem?_eq_getElem hj2]
    exact this.is

theorem nth3 (a p i : ByteArray) (ps : List ByteArray) (pl : Nat) : nth (a :: p :: i :: ps) (3 + pl) 0 = a ∧ nth (a :: p :: i :: ps) (3 + pl) 1 = p ∧ nth (a :: p :: i :: ps) (3 + pl) 2 = i := by
  rw [Nat.add_comm 3 pl]
  exact ⟨rfl, rfl, rfl⟩

theorem run_eql_nil (w : World) (a : Option Addr) (l c : Nat) : (binOp .eql 25 (.slice a l c) (.slice none 0 0)).run Try.prog w = .ok (.bool a.isNone) w := by
  simp only [binOp]
  simp [run_equal_slice_nil w 25 9 a l c Try.underlying25]

set_option maxHeartbeats 1600000 in
theorem law4 (w : World) (a p i : ByteArray) (pa : Option Addr) (pl pc : Nat) (ps : List ByteArray) (hs : StrsAt w pa pl ps) (hpl : pl ≤ 9223372036854775807)
    (ha : a.size ≤ 9223372036854775807) (hp : p.size ≤ 9223372036854775807) (hi : i.size ≤ 9223372036854775807) (hps : ∀ j, (ps.getD j ByteArray.empty).size ≤ 9223372036854775807) :
    Calls Try.prog 4 #[.string a, .slice pa pl pc, .string p, .string i] w fun e w' => e = .returned (.bool true) ∧ Below w.heap.size w w' := by
  have HP : Hid _ := hps
  clear hps
  have hnq := run_eql_nil
  go_enter Try.func4, Try.ntmps4
  go_wp2_with fail
  refine (bytes10 w a p i pa pl pc ps hs hpl ha hp hi HP.out).mono ?_
  rintro e w' ⟨b, rfl, rfl, hb⟩
  cases b with
  | false =>
    go_wp2_with fail
    go_ret
    exact ⟨rfl, Below.refl _ _⟩
  | true =>
    have hpl2 := hb rfl
    clear hb
    by_cases hsz : a.size ≤ 1048576 ∧ p.size ≤ 1048576 ∧ i.size ≤ 1048576
    · obtain ⟨h1, h2, h3⟩ := hsz
      go_wp2_with fail
      · go_ret
        exact ⟨rfl, Below.refl _ _⟩
      · go_loop [9, 10] (fun z c => ∃ (k m : Nat), k ≤ pl ∧ m ≤ 1048576 ∧ c = .int .i64 k ∧ z = .int .i64 m) (fun _ c => pl - (intOf c).toNat)
        case atStart => exact ⟨0, 1048576 - a.size - p.size - i.size, by omega, by omega, rfl, by go_num⟩
        case round =>
          obtain ⟨k, m, hk, hm, rfl, rfl⟩ := hrel
          by_cases hlt : k < pl
          · obtain ⟨b, off, rfl, hc⟩ := hs.2 (by omega)
            have hck := hc k hlt
            have hsz := HP.out k
            clear hc hs
            generalize ps.getD k ByteArray.empty = s at hck hsz
            go_wp2_with fail
            · go_ret
              exact ⟨rfl, Below.refl _ _⟩
            · go_ret
              exact ⟨rfl, Below.refl _ _⟩
            · go_round
              case rel => exact ⟨k + 1, m - (16 + s.size), by omega, by omega, by go_num, by go_num⟩
              case measure => simp [intOf]; omega
          · go_wp2_with fail
            refine (zzparts_any _ a p i pa pl pc ps hs.1 hpl2 hs.2).mono ?_
            rintro e w1 ⟨v, vs, rfl, ho1, ha1, hb1⟩
            obtain ⟨g, c, rfl, hlen, hrows⟩ := rows_of_own ho1 ha1 (by omega)
            have HR : Hid _ := hrows
            clear hrows
            have HL : Hid _ := hlen
            clear hlen
            go_wp2_with fail
            refine (zzrec_any w1 _ (3 + pl) c (a :: p :: i :: ps) HL.out (by omega) HR.out).mono ?_
            rintro e w2 ⟨pv, rfl, ho2, hnil, hb2⟩
            obtain ⟨e0, e1, e2⟩ := nth3 a p i ps pl
            rw [e0, e1, e2]
            clear e0 e1 e2
            rw [Nat.add_sub_cancel_left] at ho2
            have ho3 : w2.ownsRow w1.heap.size 9 1 pv pl (ps.map Value.string) := ho2
            have hB2 : Below w.heap.size w w2 := hb1.trans (hb2.mono hb1.size)
            clear ho2 hb1 hb2 ho1 ha1 HR
            by_cases h0 : pl = 0
            · obtain rfl := hnil.2 (by omega)
              clear hnil ho3
              have hk0 : k = 0 := by omega
              subst hk0
              subst h0
              go_wp2_with fail
              refine wp_loop_rounds 1 ?_
              rw [rounds_succ]
              go_wp2_with fail
              go_ret
              exact ⟨rfl, hB2.alloc hB2.size _⟩
            · have hgg : ∃ g2 c2, pv = .slice (some ⟨g2, 0, none⟩) pl c2 := by
                rcases ho3.2 with ⟨_, h⟩ | ⟨g2, c2, _, h, _⟩
                · exact absurd h h0
                · exact ⟨g2, c2, h⟩
              obtain ⟨g2, c2, rfl⟩ := hgg
              clear hnil
              go_wp2_with fail
              have hW := hB2.alloc hB2.size (Obj.cells #[Value.string a, Value.slice (some ⟨g2, 0, none⟩) pl c2, Value.string ⟨#[]⟩, Value.string i] 27)
              have d1 := World.cell?_alloc_at (w := w2) #[Value.string a, Value.slice (some ⟨g2, 0, none⟩) pl c2, Value.string ⟨#[]⟩, Value.string i] 27 w2.heap.size 1 rfl
              have hoW := ho3.alloc (Obj.cells #[Value.string a, Value.slice (some ⟨g2, 0, none⟩) pl c2, Value.string ⟨#[]⟩, Value.string i] 27)
              generalize w2.alloc (Obj.cells #[Value.string a, Value.slice (some ⟨g2, 0, none⟩) pl c2, Value.string ⟨#[]⟩, Value.string i] 27) = W at hW d1 hoW ⊢
              simp only [List.getElem?_toArray, List.getElem?_cons_succ, List.getElem?_cons_zero] at d1
              obtain ⟨b, off, rfl, hc⟩ := hs.2 (by omega)
              have hcA : Hid (∀ j, j < pl → W.cell? ⟨b, off + j, none⟩ = some (.string (ps.getD j ByteArray.empty))) := fun j hj =>
                (hW.cell (p := ⟨b, off + j, none⟩) (World.block_lt_of_cell? w _ (hc j hj))).trans (hc j hj)
              have hcB : Hid (∀ j, j < pl → W.cell? ⟨g2, j, none⟩ = some (.string (ps.getD j ByteArray.empty))) := fun j hj => by
                have hjp : j < ps.length := by rw [hs.1]; exact hj
                rw [hoW.cellAt j (by omega), List.getElem?_map, List.getElem?_eq_getElem hjp, List.getD_eq_getElem?_getD, List.getElem?_eq_getElem hjp]
                rfl
              clear hc hoW ho3 hB2 hs HP
              go_loopw [13] (fun c wr => ∃ (k2 m2 : Nat), k2 ≤ pl ∧ c = .int .i64 k2 ∧ wr = W.drewN m2) (fun c _ => pl - (intOf c).toNat)
              case atStart => exact ⟨0, 0, Nat.zero_le _, rfl, rfl⟩
              case round =>
                obtain ⟨k2, m2, hk2, rfl, rfl⟩ := hrel
                by_cases hlt2 : k2 < pl
                · have cA := hcA.out k2 hlt2
                  have cB := hcB.out k2 hlt2
                  generalize ps.getD k2 ByteArray.empty = s at cA cB
                  have hb1 : (k2 : Int) < (pl : Int) := by omega
                  have hb0 : (0 : Int) ≤ (k2 : Int) := by omega
                  go_wp2_with fail
                  go_quiet (fail)
                  go_wp2_with fail
                  go_roundw
                  case rel => exact ⟨k2 + 1, m2 + nq, by omega, by go_num, rfl⟩
                  case measure => simp [intOf]; omega
                · go_wp2_with fail
                  go_ret
                  exact ⟨rfl, below_drewN hW m2⟩
    · go_wp2_with fail
      all_goals
        go_ret
        exact ⟨rfl, Below.refl _ _⟩
end Go.Proofs.Qxb6617423a
