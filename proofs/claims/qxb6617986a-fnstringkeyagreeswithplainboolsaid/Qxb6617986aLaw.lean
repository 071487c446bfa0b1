/-
  Seat b6617986a: the law's walk, put together from its ways.
-/
import Derived.Test.Qxb6617986aShort
import Derived.Test.Qxb6617986aLong
namespace Go.Proofs.Qxb6617986a
open Go.ChangeShapes Go.WideShapes Go.ChangeAt Go.RowKit

theorem bool_lead {l : List UInt8} (h : IsYes l ∨ IsNo l) : mark ((l.getD 0 0).toNat : Int) = false := by
  rcases h with h | h
  · rcases h with rfl | rfl | rfl | rfl | rfl | rfl | rfl | rfl | rfl | rfl | rfl <;> decide
  · rcases h with rfl | rfl | rfl | rfl | rfl | rfl | rfl | rfl | rfl | rfl | rfl <;> decide

theorem key_yes (w : World) (b off nk ck : Nat) (at_ : Option Addr) (nt ct : Nat) (l t : List UInt8) (hr : RowAt w b off nk (ints l)) (hs : SrcAt w at_ nt ct (ints t)) (h0 : 0 < nk) (h : nk + nt ≤ 1048576) :
    Calls Try.prog 3 #[.slice (some ⟨b, off, none⟩) nk ck, .slice at_ nt ct] w fun e w' => e = .returned (.bool true) ∧ Below w.heap.size w w' := by
  obtain ⟨W0, W1, W2, S⟩ := setting w b off nk ck at_ nt ct l t hr hs h0 h
  have hl : l.length = nk := by rw [← ints_length]; exact hr.1
  have ht : t.length = nt := by rw [← ints_length]; exact hs.1
  cases hm : mark ((l.getD 0 0).toNat : Int) with
  | true =>
    have hsk : skey l = false := by unfold skey; rw [hm]; rfl
    have hb : isB l = false := by
      cases hb : isB l with
      | false => rfl
      | true =>
        have := bool_lead ((isB_iff l).1 hb)
        rw [hm] at this
        cases this
    by_cases hlong : 5 < nk ∧ 4 < nt
    · refine long_mark w W0 W1 W2 b off nk ck at_ nt ct l t S hm hsk hb hlong.1 hlong.2 ?_
      unfold skey
      rw [show (l.getD 0 0 :: t).getD 0 0 = l.getD 0 0 from rfl, hm]
      rfl
    · exact short_mark w W0 W1 W2 b off nk ck at_ nt ct l t S hm hsk hb (by omega)
  | false =>
    cases hb : isB l with
    | true =>
      have hsk : skey l = false := by unfold skey; rw [hm, hb]; rfl
      have h5 := bool_short ((isB_iff l).1 hb)
      exact short_bool w W0 W1 W2 b off nk ck at_ nt ct l t S hm hsk hb (by omega)
    | false =>
      cases hn : isN l with
      | true =>
        have hsk : skey l = false := by unfold skey; rw [hm, hb, hn]; rfl
        obtain ⟨h4, hz⟩ := null_four ((isN_iff l).1 hn)
        refine short_null w W0 W1 W2 b off nk ck at_ nt ct l t S hm hsk hb (by omega) (by omega) ?_
        rcases hz with hz | hz
        · exact .inl (by rw [hz]; rfl)
        · exact .inr (by rw [hz]; rfl)
      | false =>
        have hsk : skey l = true := by unfold skey; rw [hm, hb, hn]; rfl
        by_cases hlong : 5 < nk ∧ 4 < nt
        · refine long_plain w W0 W1 W2 b off nk ck at_ nt ct l t S hm hsk hb hlong.1 hlong.2 ?_
          rw [skey_long (by rw [List.length_cons]; omega), show (l.getD 0 0 :: t).getD 0 0 = l.getD 0 0 from rfl, hm]
          rfl
        · exact short_plain w W0 W1 W2 b off nk ck at_ nt ct l t S hm hsk hb (by omega)

/-- numbers that fit a byte are bytes. -/
theorem bytes_of {zs : List Int} (h : ∀ n ∈ zs, (Lit.int .u8 n).wf = true) : ∃ l, ints l = zs := by
  refine ⟨zs.map fun z => UInt8.ofNat z.toNat, ?_⟩
  have e : zs.map ((fun b : UInt8 => (b.toNat : Int)) ∘ fun z => UInt8.ofNat z.toNat) = zs.map fun z => z := by
    refine List.map_congr_left fun z hz => ?_
    have := bounds_u8 (h z hz)
    simp
    omega
  unfold ints
  rw [List.map_map, e, List.map_id']
end Go.Proofs.Qxb6617986a
