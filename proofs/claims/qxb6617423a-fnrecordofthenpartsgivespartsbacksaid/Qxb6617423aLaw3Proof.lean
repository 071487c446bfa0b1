/-
  Seat b6617423a: 'Rows.FnRecordOfThenPartsGivesPartsBackSaid': the row's frame round the walk 'law3'.
-/
import Derived.Test.Qxb6617423aRows
import Derived.WalkKit
import Derived.ProofKit
import Derived.OpenShut
import Derived.ShutString
import Derived.ChangeOld
import Derived.Below
import Derived.Deep.Matrix
import Derived.Test.Qxb6617423aLaw3
namespace Go.Proofs.Qxb6617423a.fnRecordOfThenPartsGivesPartsBack
open Go.ChangeShapes Go.WideShapes Go.ChangeAt Go.RowKit
open Go.ChangeMaps (open_string shut_string)
set_option linter.unusedVariables false

theorem own : ownKnob Try.prog.godebug = none := by kernel_rfl
theorem laidOut : laidOutB Try.prog = true := by kernel_rfl

/-- bytes out of numbers. -/
def ofInts (zs : List Int) : ByteArray := ⟨(zs.map fun z => UInt8.ofNat z.toNat).toArray⟩
theorem size_ofInts (zs : List Int) : (ofInts zs).size = zs.length := by simp [ofInts, ByteArray.size]
theorem get_ofInts (zs : List Int) (h : ∀ n ∈ zs, (Lit.int .u8 n).wf = true) (j : Nat) (hj : j < (ofInts zs).size) : (((ofInts zs)[j]).toNat : Int) = zs.getD j 0 := by
  have hj' : j < zs.length := by rw [← size_ofInts]; exact hj
  have e : (ofInts zs)[j] = UInt8.ofNat (zs[j]).toNat := by
    show (ofInts zs).data[j] = _
    simp [ofInts]
  have hb := bounds_u8 (h zs[j] (List.getElem_mem hj'))
  rw [e, List.getD_eq_getElem?_getD, List.getElem?_eq_getElem hj']
  simp
  omega

theorem isBytes_of {W : World} {A : Option Addr} {L C : Nat} {Z : List Int} (hL : L ≤ C) (hZ : Z.length = C) (hw : ∀ n ∈ Z, (Lit.int .u8 n).wf = true) (hn : A = none → C = 0)
    (hc : ∀ a', A = some a' → ∀ c, c < C → W.cell? (a'.add c) = some (.int .u8 (Z.getD c 0))) : IsBytes W (.slice A L C) (ofInts (Z.take L)) := by
  have hs : (ofInts (Z.take L)).size = L := by rw [size_ofInts, List.length_take]; omega
  refine ⟨A, C, by rw [hs], fun h => by rw [hs]; have := hn h; omega, fun a ha j hj => ?_⟩
  have hjL : j < L := by rw [← hs]; exact hj
  rw [hc a ha j (by omega), get_ofInts (Z.take L) (fun n h => hw n (List.mem_of_mem_take h)) j hj]
  simp [List.getD_eq_getElem?_getD, hjL]

set_option maxRecDepth 100000 in
theorem lifted (os : Os) (started : os.Started) (H : Type) (enc : TypeId × Value → H) :
    ReturnsInHanded {} Try.checked os 3 .any (Rows.fnRecordOfThenPartsGivesPartsBackSpec.pre6 enc Try.prog Try.f3 Rows.fnRecordOfThenPartsGivesPartsBackRow.domain false) (Rows.fnRecordOfThenPartsGivesPartsBackSpec.post enc Try.prog Try.f3 false true false false) := by
  refine returnsInHanded_of_change (C := Try.checked) own started (by kernel_rfl) Try.func3
    (ChangeSpec.witness6 (enc := enc) (C := Try.checked) false ⟨#[], #[.slice none 0 0], []⟩ 8 (by kernel_rfl) (by kernel_rfl) (by kernel_rfl) (by kernel_rfl)) ?_
  intro W base args ds gs before hval0 hW hcnd _
  have hval : ∀ (j : Nat) t v, Try.f3.params[j]? = some t → args[j]? = some v → Value.okWide Try.prog W .any base t v := hval0
  have hW' := hW
  obtain ⟨p, q, hA0, hV, rfl, hfz, hnd⟩ := hW
  have hA : DataW.TrodAll enc Try.prog W 0 (fun _ => true) true Try.f3.params.toList args.toList ds p := hA0
  rw [Try.params3] at hA hval
  obtain ⟨v0, vs0, d0, ds0, p0, q0, hargs, rfl, rfl, h0, r0⟩ := trodAll_cons hA
  obtain ⟨rfl, rfl, rfl⟩ := trodAll_nil r0
  obtain rfl : args = #[v0] := by cases args; simp_all
  obtain ⟨rfl, rfl⟩ := trodVars_none hV
  obtain ⟨a0, len0, cap0, rfl⟩ := okWide_slice Try.underlying22 (hval 0 22 v0 rfl rfl)
  have k0 := h0
  have lt0 : ∀ x ∈ p0, x.block < W.heap.size := by obtain ⟨m, hm⟩ := k0; exact DataW.trod_lt m _ _ _ hm
  obtain ⟨ss, w0, wl, wz⟩ : ∃ ss, RowsAt W a0 len0 ss ∧ len0 ≤ maxLen ∧ ∀ j, (ss.getD j ⟨#[]⟩).size ≤ maxLen := by
    obtain ⟨fuel, hf⟩ := h0
    rcases Go.Deep.open_int_rows Try.underlying22 Try.underlying31 Try.underlying5 (by kernel_rfl) (by kernel_rfl) hf with ⟨hcs, _⟩ | ⟨x, l, c, A, L, C, Z, hcs, _, hl, hm, _, hr⟩
    · simp [Value.cells] at hcs
      obtain ⟨rfl, rfl, rfl⟩ := hcs
      exact ⟨[], ⟨rfl, fun h => absurd h (by omega)⟩, by unfold maxLen; omega, fun j => Nat.zero_le _⟩
    · simp [Value.cells] at hcs
      obtain ⟨rfl, rfl, rfl⟩ := hcs
      have hget : ∀ j, j < len0 → ((List.range len0).map fun r => ofInts ((Z r).take (L r))).getD j ⟨#[]⟩ = ofInts ((Z j).take (L j)) := fun j hj => by
        simp [List.getD_eq_getElem?_getD, hj]
      refine ⟨(List.range len0).map fun r => ofInts ((Z r).take (L r)), ⟨by simp, fun h => ?_⟩, Nat.le_trans hl hm, fun j => ?_⟩
      · obtain ⟨b, off, spot⟩ := x
        have hspot : spot = none := by simpa [Addr.add] using World.cell?_spot (hr 0 (by omega)).1
        subst hspot
        refine ⟨b, off, rfl, fun j hj => ?_⟩
        obtain ⟨hc, h1, h2, h3, h4, h5, h6⟩ := hr j (by omega)
        rw [add_plain] at hc
        rw [hget j hj]
        exact ⟨_, hc, isBytes_of h1 h3 h4 h5 (fun a' ha => (h6 a' ha).2)⟩
      · by_cases hj : j < len0
        · obtain ⟨_, h1, h2, h3, _⟩ := hr j (by omega)
          rw [hget j hj, size_ofInts, List.length_take]
          omega
        · rw [List.getD_eq_getElem?_getD, List.getElem?_eq_none (by simp; omega)]
          exact Nat.zero_le _
  clear hA0 hval0
  refine (law3 W a0 len0 cap0 ss w0 wl wz).mono fun e W' ⟨he, bel⟩ => ?_
  subst he
  exact ⟨_, rfl, _, _, _, [], _, [], hW', trodAll_mk1 (shut_bool Try.underlying4 _), (trodAll_cons_mk (Below.trod laidOut (by kernel_rfl) (of_decide_eq_true (by kernel_rfl)) k0 bel lt0) trodAll_mk0), rfl, bel.frame _, fun h => by cases h⟩

theorem over : Rows.fnRecordOfThenPartsGivesPartsBackRow.holds Try.pinned (OpenSpec.ofChange Rows.fnRecordOfThenPartsGivesPartsBackSpec) :=
  OpenClaim.holds_of_wide 3 Try.f3 rfl rfl rfl rfl rfl rfl rfl ⟨rfl, rfl, rfl, rfl, rfl⟩ rfl rfl rfl rfl rfl (by kernel_rfl) Try.func3 (by kernel_rfl)
    (of_decide_eq_true (by kernel_rfl)) (by unfold Func.isWrapper; first | (rw [if_pos (by decide +kernel)]; kernel_rfl) | (rw [if_neg (by decide +kernel)]; exact ⟨rfl, rfl⟩))
    (fun os started H enc _ => lifted os started H enc)

/-- THE STATEMENT -/
theorem proved : Rows.FnRecordOfThenPartsGivesPartsBackSaid := over
end Go.Proofs.Qxb6617423a.fnRecordOfThenPartsGivesPartsBack
