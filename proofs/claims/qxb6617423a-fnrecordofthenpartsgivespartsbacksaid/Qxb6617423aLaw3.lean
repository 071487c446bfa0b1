/-
  Seat b6617423a: the walks of 'zzBytes_FnRecordOfThenPartsGivesPartsBack' (function 5), 'zzCostRun' (6), 'zzBytesEq' (9) and of the law itself (function 3).
-/
import Derived.Test.Qxb6617423aLaw4
namespace Go.Proofs.Qxb6617423a
open Go.ChangeShapes Go.WideShapes Go.ChangeAt Go.RowKit

/-- a [][]byte that came in: nothing known of its address where it is empty. -/
def RowsAt (w : World) (pa : Option Addr) (n : Nat) (ss : List ByteArray) : Prop :=
  ss.length = n ∧ (0 < n → ∃ b off, pa = some ⟨b, off, none⟩ ∧ ∀ j, j < n → ∃ v, w.cell? ⟨b, off + j, none⟩ = some v ∧ IsBytes w v (ss.getD j ⟨#[]⟩))

set_option maxHeartbeats 800000 in
theorem bytes5 (w : World) (pa : Option Addr) (n cap : Nat) (ss : List ByteArray) (hs : RowsAt w pa n ss) (hn : n ≤ 9223372036854775807) (hz : ∀ j, (ss.getD j ⟨#[]⟩).size ≤ 9223372036854775807) :
    Calls Try.prog 5 #[.slice pa n cap] w fun e w' => Guards (n ≤ 1048576) w e w' := by
  have HP : Hid _ := hz
  clear hz
  go_enter Try.func5, Try.ntmps5
  go_wp2_with fail
  · go_ret
    exact Guards.mk rfl (by simp)
  · go_loop [3, 4] (fun z c => ∃ (k m : Nat), k ≤ n ∧ m ≤ 1048576 ∧ c = .int .i64 k ∧ z = .int .i64 m) (fun _ c => n - (intOf c).toNat)
    case atStart => exact ⟨0, n, by omega, by omega, rfl, by go_num⟩
    case round =>
      obtain ⟨k, m, hk, hm, rfl, rfl⟩ := hrel
      by_cases hlt : k < n
      · obtain ⟨b, off, rfl, hc⟩ := hs.2 (by omega)
        obtain ⟨v, hck, ao, vc, rfl, _, _⟩ := hc k hlt
        have hsz := HP.out k
        clear hc hs
        generalize ss.getD k ⟨#[]⟩ = s at hck hsz
        go_wp2_with fail
        · go_ret
          exact Guards.mk rfl (by simp)
        · go_ret
          exact Guards.mk rfl (by simp)
        · go_round
          case rel => exact ⟨k + 1, m + s.size, by omega, by omega, by go_num, by go_num⟩
          case measure => simp [intOf]; omega
      · go_wp2_with fail
        all_goals
          go_ret
          exact Guards.mk rfl (by omega)

def Gives (w : World) (e : Ending) (w' : World) : Prop := ∃ r : Int, e = .returned (.int .i64 r) ∧ w = w'
theorem Gives.mk {w : World} {e : Ending} {r : Int} (he : e = .returned (.int .i64 r)) : Gives w e w := ⟨r, he, rfl⟩

set_option maxHeartbeats 800000 in
theorem cost6 (w : World) (pa : Option Addr) (n cap : Nat) (ss : List ByteArray) (hs : RowsAt w pa n ss) (hn : n ≤ 1048576) (hz : ∀ j, (ss.getD j ⟨#[]⟩).size ≤ 9223372036854775807) :
    Calls Try.prog 6 #[.slice pa n cap, .int .i64 1048576] w fun e w' => Gives w e w' := by
  have HP : Hid _ := hz
  clear hz
  go_enter Try.func6, Try.ntmps6
  go_wp2_with fail
  go_loop [1, 5] (fun z c => ∃ (k m : Nat), k ≤ n ∧ m ≤ 1048576 ∧ c = .int .i64 k ∧ z = .int .i64 m) (fun _ c => n - (intOf c).toNat)
  case atStart => exact ⟨0, 1048576, by omega, by omega, rfl, rfl⟩
  case round =>
    obtain ⟨k, m, hk, hm, rfl, rfl⟩ := hrel
    by_cases hlt : k < n
    · obtain ⟨b, off, rfl, hc⟩ := hs.2 (by omega)
      obtain ⟨v, hck, ao, vc, rfl, _, _⟩ := hc k hlt
      have hsz := HP.out k
      clear hc hs
      generalize ss.getD k ⟨#[]⟩ = s at hck hsz
      go_wp2_with fail
      · go_ret
        exact Gives.mk rfl
      · go_ret
        exact Gives.mk rfl
      · go_round
        case rel => exact ⟨k + 1, m - (24 + s.size), by omega, by omega, by go_num, by go_num⟩
        case measure => simp [intOf]; omega
    · go_wp2_with fail
      go_ret
      exact Gives.mk rfl

/-- the bytes by plain addresses. -/
theorem IsBytes.at {w : World} {v : Value} {s : ByteArray} (h : IsBytes w v s) :
    ∃ ao cap, v = .slice ao s.size cap ∧ (0 < s.size → ∃ b off, ao = some ⟨b, off, none⟩ ∧ ∀ j (hj : j < s.size), w.cell? ⟨b, off + j, none⟩ = some (.int .u8 (s[j].toNat : Int))) := by
  obtain ⟨ao, cap, rfl, hn, hc⟩ := h
  refine ⟨ao, cap, rfl, fun h0 => ?_⟩
  match ao, hn, hc with
  | none, hn, _ => exact absurd (hn rfl) (by omega)
  | some ⟨b, off, spot⟩, _, hc =>
    have hspot : spot = none := by simpa [Addr.add] using World.cell?_spot (hc _ rfl 0 h0)
    subst hspot
    exact ⟨b, off, rfl, fun j hj => by rw [← add_plain]; exact hc _ rfl j hj⟩

set_option maxHeartbeats 800000 in
theorem eq9 (w : World) (va vb : Value) (s : ByteArray) (ha : IsBytes w va s) (hb : IsBytes w vb s) (hz : s.size ≤ 9223372036854775807) :
    Calls Try.prog 9 #[va, vb] w fun e w' => e = .returned (.bool true) ∧ ∃ m, w' = w.drewN m := by
  obtain ⟨ao, ca, rfl, fa⟩ := ha.at
  obtain ⟨bo, cb, rfl, fb⟩ := hb.at
  have HA : Hid _ := fa
  have HB : Hid _ := fb
  clear fa fb ha hb
  go_enter Try.func9, Try.ntmps9
  go_wp2_with fail
  go_loopw [5] (fun c wr => ∃ (k m : Nat), k ≤ s.size ∧ c = .int .i64 k ∧ wr = w.drewN m) (fun c _ => s.size - (intOf c).toNat)
  case atStart => exact ⟨0, 0, Nat.zero_le _, rfl, rfl⟩
  case round =>
    obtain ⟨k, m, hk, rfl, rfl⟩ := hrel
    by_cases hlt : k < s.size
    · obtain ⟨b1, o1, rfl, f1⟩ := HA.out (by omega)
      obtain ⟨b2, o2, rfl, f2⟩ := HB.out (by omega)
      have g1 := f1 k hlt
      have g2 := f2 k hlt
      clear f1 f2 HA HB
      generalize (s[k].toNat : Int) = z at g1 g2
      have hb1 : (k : Int) < (s.size : Int) := by omega
      have hb0 : (0 : Int) ≤ (k : Int) := by omega
      go_wp2_with fail
      go_quiet (fail)
      go_wp2_with fail
      go_roundw
      case rel => exact ⟨k + 1, m + nq, by omega, by go_num, rfl⟩
      case measure => simp [intOf]; omega
    · go_wp2_with fail
      go_ret
      exact ⟨rfl, m, rfl⟩

theorem nth_full (ss : List ByteArray) (n j : Nat) (h : ss.length = n) : nth ss n j = ss.getD j ⟨#[]⟩ := by
  unfold nth
  rw [List.take_of_length_le (by omega)]

theorem pad_getD (ss : List ByteArray) (j : Nat) : (ss.getD 0 ⟨#[]⟩ :: ss.getD 1 ⟨#[]⟩ :: ss.getD 2 ⟨#[]⟩ :: ss.drop 3).getD j ⟨#[]⟩ = ss.getD j ⟨#[]⟩ := by
  match j with
  | 0 => rfl
  | 1 => rfl
  | 2 => rfl
  | j + 3 => simp [List.getD_eq_getElem?_getD, Nat.add_comm 3 j]

theorem peers_at {w : World} {base : Nat} {pv : Value} {n : Nat} {ps : List ByteArray} (ho : w.ownsRow base 9 1 pv n (ps.map Value.string)) :
    ∃ po pc, pv = .slice po n pc ∧ ps.length = n ∧ (0 < n → ∃ b off, po = some ⟨b, off, none⟩ ∧ ∀ j, j < n → w.cell? ⟨b, off + j, none⟩ = some (.string (ps.getD j ByteArray.empty))) := by
  have hl : ps.length = n := by simpa using ho.1
  rcases ho.2 with ⟨rfl, rfl⟩ | ⟨g, c, cur, rfl, _⟩
  · exact ⟨none, 0, rfl, hl, fun h => absurd h (by omega)⟩
  · refine ⟨_, c, rfl, hl, fun _ => ⟨g, 0, rfl, fun j hj => ?_⟩⟩
    have hjp : j < ps.length := by omega
    rw [Nat.zero_add, ho.cellAt j (by omega), List.getElem?_map, List.getElem?_eq_getElem hjp, List.getD_eq_getElem?_getD, List.getElem?_eq_getElem hjp]
    rfl

theorem isBytes_nil (w : World) : IsBytes w (.slice none 0 0) ⟨#[]⟩ := ⟨none, 0, rfl, fun _ => rfl, fun a h => by cases h⟩

theorem IsBytes.drewN {w : World} {v : Value} {s : ByteArray} (h : IsBytes w v s) (m : Nat) : IsBytes (w.drewN m) v s :=
  h.below (below_drewN (Below.refl w.heap.size w) m) (Nat.le_refl _)

set_option maxHeartbeats 1600000 in
theorem law3 (w : World) (pa : Option Addr) (n cap : Nat) (ss : List ByteArray) (hs : RowsAt w pa n ss) (hn : n ≤ 9223372036854775807) (hz : ∀ j, (ss.getD j ⟨#[]⟩).size ≤ 9223372036854775807) :
    Calls Try.prog 3 #[.slice pa n cap] w fun e w' => e = .returned (.bool true) ∧ Below w.heap.size w w' := by
  have HP : Hid _ := hz
  clear hz
  have hnq := run_eql_nil
  go_enter Try.func3, Try.ntmps3
  go_wp2_with fail
  refine (bytes5 w pa n cap ss hs hn HP.out).mono ?_
  rintro e w' ⟨b, rfl, rfl, hb⟩
  cases b with
  | false =>
    go_wp2_with fail
    go_ret
    exact ⟨rfl, Below.refl _ _⟩
  | true =>
    have hn2 := hb rfl
    clear hb
    go_wp2_with fail
    refine (cost6 w pa n cap ss hs hn2 HP.out).mono ?_
    rintro e w' ⟨r, rfl, rfl⟩
    go_wp2_with fail
    · go_ret
      exact ⟨rfl, Below.refl _ _⟩
    · refine (zzrec_any w pa n cap ss hs.1 (by omega) hs.2).mono ?_
      rintro e w1 ⟨pv, rfl, ho1, hnil, hb1⟩
      rw [nth_full ss n 0 hs.1, nth_full ss n 1 hs.1, nth_full ss n 2 hs.1]
      obtain ⟨po, pc, rfl, hpl, hps⟩ := peers_at ho1
      have HPS : Hid _ := hps
      have HPL : Hid _ := hpl
      have HNIL : Hid _ := hnil
      clear hps hpl hnil ho1
      generalize hs0 : ss.getD 0 ⟨#[]⟩ = s0
      generalize hs1 : ss.getD 1 ⟨#[]⟩ = s1
      generalize hs2 : ss.getD 2 ⟨#[]⟩ = s2
      have HS : Hid (∀ j, (s0 :: s1 :: s2 :: ss.drop 3).getD j ⟨#[]⟩ = ss.getD j ⟨#[]⟩) := by
        subst hs0 hs1 hs2
        exact pad_getD ss
      clear hs0 hs1 hs2
      go_wp2_with fail
      have hB2 := hb1.alloc hb1.size (Obj.cells #[Value.string s0, Value.slice po (n - 3) pc, Value.string ⟨#[]⟩, Value.string s2] 27)
      have hlt2 : w1.heap.size < (w1.alloc (Obj.cells #[Value.string s0, Value.slice po (n - 3) pc, Value.string ⟨#[]⟩, Value.string s2] 27)).heap.size := by rw [World.size_alloc]; omega
      have c1 := World.cell?_alloc_at (w := w1) #[Value.string s0, Value.slice po (n - 3) pc, Value.string ⟨#[]⟩, Value.string s2] 27 w1.heap.size 1 rfl
      have c2 := World.cell?_alloc_at (w := w1) #[Value.string s0, Value.slice po (n - 3) pc, Value.string ⟨#[]⟩, Value.string s2] 27 w1.heap.size 2 rfl
      have b12 := (Below.refl w1.heap.size w1).alloc (Nat.le_refl _) (Obj.cells #[Value.string s0, Value.slice po (n - 3) pc, Value.string ⟨#[]⟩, Value.string s2] 27)
      generalize w1.alloc (Obj.cells #[Value.string s0, Value.slice po (n - 3) pc, Value.string ⟨#[]⟩, Value.string s2] 27) = w2 at hB2 hlt2 c1 c2 b12 ⊢
      simp only [List.getElem?_toArray, List.getElem?_cons_succ, List.getElem?_cons_zero] at c1 c2
      refine (zzparts_any w2 s0 s1 s2 po (n - 3) pc (ss.drop 3) HPL.out (by omega) ?_).mono ?_
      · intro h0
        obtain ⟨b, off, hpo, hc⟩ := HPS.out h0
        exact ⟨b, off, hpo, fun j hj => (b12.cell (p := ⟨b, off + j, none⟩) (World.block_lt_of_cell? w1 _ (hc j hj))).trans (hc j hj)⟩
      · rintro e W ⟨v, vs, rfl, ho3, ha3, hb3⟩
        obtain ⟨g, c, rfl, _, hrows⟩ := rows_of_own ho3 ha3 (by omega)
        have HBK : Hid (∀ j, j < 3 + (n - 3) → ∃ u, W.cell? ⟨g, j, none⟩ = some u ∧ IsBytes W u (ss.getD j ⟨#[]⟩)) := fun j hj => by
          obtain ⟨b, off, hbo, hr⟩ := hrows (by omega)
          simp only [Option.some.injEq, Addr.mk.injEq, and_true] at hbo
          obtain ⟨rfl, rfl⟩ := hbo
          have := hr j hj
          rw [Nat.zero_add, HS.out j] at this
          exact this
        have hW : Below w.heap.size w W := hB2.trans (hb3.mono hB2.size)
        have d1 : W.cell? ⟨w1.heap.size, 1, none⟩ = some (.slice po (n - 3) pc) := (hb3.cell (p := ⟨w1.heap.size, 1, none⟩) hlt2).trans c1
        have d2 : W.cell? ⟨w1.heap.size, 2, none⟩ = some (.string ⟨#[]⟩) := (hb3.cell (p := ⟨w1.heap.size, 2, none⟩) hlt2).trans c2
        have HIN : Hid (0 < n → ∃ b off, pa = some ⟨b, off, none⟩ ∧ ∀ j, j < n → ∃ v, W.cell? ⟨b, off + j, none⟩ = some v ∧ IsBytes W v (ss.getD j ⟨#[]⟩)) := fun h0 => by
          obtain ⟨b, off, hpo, hc⟩ := hs.2 h0
          refine ⟨b, off, hpo, fun j hj => ?_⟩
          obtain ⟨x, hx, hxb⟩ := hc j hj
          exact ⟨x, (hW.cell (p := ⟨b, off + j, none⟩) (World.block_lt_of_cell? w _ hx)).trans hx, hxb.below hW (Nat.le_refl _)⟩
        have HL : Hid (ss.length = n) := hs.1
        clear hrows ho3 ha3 hb3 hB2 hlt2 c1 c2 b12 HPL HS hs hb1
        rcases (show n < 3 ∨ (3 ≤ n ∧ n ≤ 3) ∨ 3 < n by omega) with h3 | ⟨h3, h3'⟩ | h3
        · have hpv := HNIL.out.2 (by omega)
          simp only [Value.slice.injEq] at hpv
          obtain ⟨rfl, _, rfl⟩ := hpv
          have hn3 : 3 + (n - 3) = 3 := by omega
          have hn4 : n - 3 = 0 := by omega
          simp only [hn3] at HBK ⊢
          simp only [hn4] at d1
          clear hn3 hn4 HNIL HPS
          go_wp2_with fail
          go_loopw [7] (fun c wr => ∃ (k m : Nat), k ≤ 3 ∧ c = .int .i64 k ∧ wr = W.drewN m) (fun c _ => 3 - (intOf c).toNat)
          case atStart => exact ⟨0, 0, Nat.zero_le _, rfl, rfl⟩
          case round =>
            obtain ⟨k, m, hk, rfl, rfl⟩ := hrel
            by_cases hlt : k < 3
            · have hbk := HBK.out k (by omega)
              have hsz := HP.out k
              generalize hsd : ss.getD k ⟨#[]⟩ = s at hbk hsz
              have HSD : Hid (ss.getD k ⟨#[]⟩ = s) := hsd
              clear hsd
              obtain ⟨u, hu, hub⟩ := hbk
              by_cases hkn : k < n
              · obtain ⟨b, off, rfl, hc⟩ := HIN.out (by omega)
                obtain ⟨x, hx, hxb⟩ := hc k hkn
                rw [HSD.out] at hxb
                have hub' := hub
                obtain ⟨uo, uc, rfl, _, _⟩ := hub'
                have hxb' := hxb
                obtain ⟨xo, xc, rfl, _, _⟩ := hxb'
                clear hc
                have HUB : Hid _ := hub
                have HXB : Hid _ := hxb
                clear hub hxb
                go_wp2_with fail
                refine (eq9 _ _ _ s (IsBytes.drewN HUB.out m) (IsBytes.drewN HXB.out m) hsz).mono ?_
                rintro e w5 ⟨rfl, m5, rfl⟩
                go_wp2_with fail
                go_roundw
                case rel => exact ⟨k + 1, m + m5, by omega, by go_num, rfl⟩
                case measure => simp [intOf]; omega
              · have he : s = ⟨#[]⟩ := by
                  rw [← HSD.out, List.getD_eq_getElem?_getD, List.getElem?_eq_none (by rw [HL.out]; omega)]
                  rfl
                subst he
                obtain ⟨uo, uc, hu', _, _⟩ := id hub
                have hu2 : u = .slice uo 0 uc := hu'
                subst hu2
                have HUB : Hid _ := hub
                clear hub hu'
                go_wp2_with fail
                refine (eq9 _ _ _ ⟨#[]⟩ (IsBytes.drewN HUB.out m) (isBytes_nil _) (Nat.zero_le _)).mono ?_
                rintro e w5 ⟨rfl, m5, rfl⟩
                go_wp2_with fail
                go_roundw
                case rel => exact ⟨k + 1, m + m5, by omega, by go_num, rfl⟩
                case measure => simp [intOf]; omega
            · go_wp2_with fail
              go_ret
              exact ⟨rfl, below_drewN hW m⟩
        · have hpv := HNIL.out.2 (by omega)
          simp only [Value.slice.injEq] at hpv
          obtain ⟨rfl, _, rfl⟩ := hpv
          have hn3 : 3 + (n - 3) = n := by omega
          have hn4 : n - 3 = 0 := by omega
          simp only [hn3] at HBK ⊢
          simp only [hn4] at d1
          clear hn3 hn4 HNIL HPS
          go_wp2_with fail
          go_loopw [7] (fun c wr => ∃ (k m : Nat), k ≤ n ∧ c = .int .i64 k ∧ wr = W.drewN m) (fun c _ => n - (intOf c).toNat)
          case atStart => exact ⟨0, 0, Nat.zero_le _, rfl, rfl⟩
          case round =>
            obtain ⟨k, m, hk, rfl, rfl⟩ := hrel
            by_cases hlt : k < n
            · have hbk := HBK.out k (by omega)
              have hsz := HP.out k
              generalize hsd : ss.getD k ⟨#[]⟩ = s at hbk hsz
              have HSD : Hid (ss.getD k ⟨#[]⟩ = s) := hsd
              clear hsd
              obtain ⟨u, hu, hub⟩ := hbk
              by_cases hkn : k < n
              · obtain ⟨b, off, rfl, hc⟩ := HIN.out (by omega)
                obtain ⟨x, hx, hxb⟩ := hc k hkn
                rw [HSD.out] at hxb
                have hub' := hub
                obtain ⟨uo, uc, rfl, _, _⟩ := hub'
                have hxb' := hxb
                obtain ⟨xo, xc, rfl, _, _⟩ := hxb'
                clear hc
                have HUB : Hid _ := hub
                have HXB : Hid _ := hxb
                clear hub hxb
                go_wp2_with fail
                refine (eq9 _ _ _ s (IsBytes.drewN HUB.out m) (IsBytes.drewN HXB.out m) hsz).mono ?_
                rintro e w5 ⟨rfl, m5, rfl⟩
                go_wp2_with fail
                go_roundw
                case rel => exact ⟨k + 1, m + m5, by omega, by go_num, rfl⟩
                case measure => simp [intOf]; omega
              · omega
            · go_wp2_with fail
              go_ret
              exact ⟨rfl, below_drewN hW m⟩
        · obtain ⟨b2, o2, rfl, _⟩ := HPS.out (by omega)
          have hn3 : 3 + (n - 3) = n := by omega
          simp only [hn3] at HBK ⊢
          clear hn3 HNIL HPS
          go_wp2_with fail
          go_loopw [7] (fun c wr => ∃ (k m : Nat), k ≤ n ∧ c = .int .i64 k ∧ wr = W.drewN m) (fun c _ => n - (intOf c).toNat)
          case atStart => exact ⟨0, 0, Nat.zero_le _, rfl, rfl⟩
          case round =>
            obtain ⟨k, m, hk, rfl, rfl⟩ := hrel
            by_cases hlt : k < n
            · have hbk := HBK.out k (by omega)
              have hsz := HP.out k
              generalize hsd : ss.getD k ⟨#[]⟩ = s at hbk hsz
              have HSD : Hid (ss.getD k ⟨#[]⟩ = s) := hsd
              clear hsd
              obtain ⟨u, hu, hub⟩ := hbk
              by_cases hkn : k < n
              · obtain ⟨b, off, rfl, hc⟩ := HIN.out (by omega)
                obtain ⟨x, hx, hxb⟩ := hc k hkn
                rw [HSD.out] at hxb
                have hub' := hub
                obtain ⟨uo, uc, rfl, _, _⟩ := hub'
                have hxb' := hxb
                obtain ⟨xo, xc, rfl, _, _⟩ := hxb'
                clear hc
                have HUB : Hid _ := hub
                have HXB : Hid _ := hxb
                clear hub hxb
                go_wp2_with fail
                refine (eq9 _ _ _ s (IsBytes.drewN HUB.out m) (IsBytes.drewN HXB.out m) hsz).mono ?_
                rintro e w5 ⟨rfl, m5, rfl⟩
                go_wp2_with fail
                go_roundw
                case rel => exact ⟨k + 1, m + m5, by omega, by go_num, rfl⟩
                case measure => simp [intOf]; omega
              · omega
            · go_wp2_with fail
              go_ret
              exact ⟨rfl, below_drewN hW m⟩
end Go.Proofs.Qxb6617423a
