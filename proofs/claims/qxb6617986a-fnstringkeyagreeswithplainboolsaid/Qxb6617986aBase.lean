/-
  Seat b6617986a: rows of bytes; 'make' and 'copy' of a whole slice; a guard's answer. No walk.
-/
import Derived.Test.Qxb6617986aRows
import Derived.WalkKit
import Derived.ProofKit
import Derived.OpenShut
import Derived.ShutString
import Derived.ChangeOld
import Derived.Below
import Derived.Laws.CopyOwn
import Derived.Deep.OwnRows
import Derived.Laws.Cover3
import Derived.Laws.IdiomStrings
namespace Go.Proofs.Qxb6617986a
open Go.ChangeShapes Go.WideShapes Go.ChangeAt Go.RowKit

/-- the n numbers zs lie at ⟨b, off⟩. -/
def RowAt (w : World) (b off n : Nat) (zs : List Int) : Prop :=
  zs.length = n ∧ ∀ j, j < n → w.cell? ⟨b, off + j, none⟩ = some (.int .u8 (zs.getD j 0))

theorem RowAt.below {B : Nat} {w w' : World} {b off n : Nat} {zs : List Int} (h : RowAt w b off n zs) (hb : Below B w w') (hB : w.heap.size ≤ B) : RowAt w' b off n zs :=
  ⟨h.1, fun j hj => (hb.cell (p := ⟨b, off + j, none⟩) (Nat.lt_of_lt_of_le (World.block_lt_of_cell? w _ (h.2 j hj)) hB)).trans (h.2 j hj)⟩

theorem lt_of_heap {w : World} {g : Nat} {o : Obj} (h : w.heap[g]? = some o) : g < w.heap.size := (Array.getElem?_eq_some_iff.1 h).1

theorem row_of_heap {w : World} {g n : Nat} {zs : List Int} {e : TypeId} {fr : Nat × Nat} (h : w.heap[g]? = some (Obj.cells (zs.map (Value.int .u8)).toArray e fr)) (hn : zs.length = n) : RowAt w g 0 n zs := by
  refine ⟨hn, fun j hj => ?_⟩
  rw [Nat.zero_add, cell_of_row w g j _ e fr h]
  have hj' : j < zs.length := by omega
  simp [List.getD_eq_getElem?_getD, hj']

theorem info5 : (Try.prog.info? 5).map (fun i => (i.zero, i.size, i.bytes)) = some (some (.int .u8 0), 1, 1) := by kernel_rfl
theorem size5 : (Try.prog.info? 5).map (·.size) = some 1 := by kernel_rfl

/-- 'zzc := make([]byte, len(v)); copy(zzc, v)'. -/
theorem copied (w : World) (b off n cap : Nat) (zs : List Int) (h : RowAt w b off n zs) (hn : n ≤ 1048576) :
    ∃ W0 W1, (Instr.makeSlice 22 (.int .i64 (n : Int)) (.int .i64 (n : Int))).run Try.prog w = .ok (.slice (some ⟨w.heap.size, 0, none⟩) n n) W0 ∧
      (Builtin.copy_ #[22, 22] 3 #[.slice (some ⟨w.heap.size, 0, none⟩) n n, .slice (some ⟨b, off, none⟩) n cap]).run Try.prog W0 = .ok (.int .i64 (n : Int)) W1 ∧
      RowAt W1 w.heap.size 0 n zs ∧ Below w.heap.size w W1 := by
  have hm := run_make_row' (P := Try.prog) 22 5 (.int .u8 0) 1 Try.underlying22 info5 rfl .i64 .i64 n (by omega) (by omega) w
  have b0 := (Below.refl w.heap.size w).alloc (Nat.le_refl _) (.cells (madeCells #[.int .u8 0] n) 5)
  have hg := heap_alloc_new w (.cells (madeCells #[.int .u8 0] n) 5)
  have hl : (zs.map (Value.int .u8)).length = n := by rw [List.length_map, h.1]
  have hs : (madeCells #[Value.int .u8 0] n).size = n := by simp [madeCells]
  have hcp := run_copy_row (P := Try.prog) (w.alloc (.cells (madeCells #[.int .u8 0] n) 5)) 22 22 3 5 w.heap.size 0 n n ⟨b, off, none⟩ n cap (madeCells #[.int .u8 0] n) 5 (zs.map (Value.int .u8)) Try.underlying22 size5 hg
    (by rw [hl]; simp) (fun j v hj => by
      have hj' : j < n := by rw [← hl]; exact (List.getElem?_eq_some_iff.1 hj).1
      rw [add_plain, (h.below b0 (Nat.le_refl _)).2 j hj']
      have hjz : j < zs.length := by rw [h.1]; exact hj'
      simp [hjz] at hj
      simp [List.getD_eq_getElem?_getD, hjz, hj]) (by rw [hl, hs]; omega) (ints_oneCell _ _)
  rw [hl] at hcp
  have hrow : (madeCells #[Value.int .u8 0] n).toList.take 0 ++ zs.map (Value.int .u8) ++ (madeCells #[Value.int .u8 0] n).toList.drop (0 + n) = zs.map (Value.int .u8) := by
    rw [List.drop_eq_nil_of_le (by rw [Array.length_toList, hs]; omega)]
    simp
  rw [hrow] at hcp
  exact ⟨_, _, hm, hcp, row_of_heap (setRow_heap _ _ _ _ _ _ hg) h.1, below_setRow b0 (Nat.le_refl _) _⟩

theorem run_neq_nil (w : World) (a : Option Addr) (l c : Nat) : (binOp .neq 22 (.slice a l c) (.slice none 0 0)).run Try.prog w = .ok (.bool (!a.isNone)) w :=
  run_neq_slice_nil w 22 5 a l c Try.underlying22

theorem row_take {w : World} {b off n : Nat} {zs : List Int} (h : RowAt w b off n zs) (c : Nat) (hc : c ≤ n) : RowAt w b off c (zs.take c) := by
  refine ⟨by rw [List.length_take, h.1]; omega, fun j hj => ?_⟩
  rw [h.2 j (by omega)]
  simp [List.getD_eq_getElem?_getD, hj]

/-- a slice of bytes that came in: nothing known of its address where it is empty. -/
def SrcAt (w : World) (ao : Option Addr) (n cap : Nat) (zs : List Int) : Prop :=
  zs.length = n ∧ (ao = none → n = 0 ∧ cap = 0) ∧ (0 < n → ∃ b off, ao = some ⟨b, off, none⟩ ∧ RowAt w b off n zs)

theorem SrcAt.below {B : Nat} {w w' : World} {ao : Option Addr} {n cap : Nat} {zs : List Int} (h : SrcAt w ao n cap zs) (hb : Below B w w') (hB : w.heap.size ≤ B) : SrcAt w' ao n cap zs :=
  ⟨h.1, h.2.1, fun h0 => by obtain ⟨b, off, e, hr⟩ := h.2.2 h0; exact ⟨b, off, e, hr.below hb hB⟩⟩

theorem SrcAt.cells {w : World} {ao : Option Addr} {n cap : Nat} {zs : List Int} (h : SrcAt w ao n cap zs) : ∀ ad, ao = some ad → ∀ j u, (zs.map (Value.int .u8))[j]? = some u → w.cell? (ad.add j) = some u := by
  intro ad had j u hu
  have hj : j < zs.length := by simpa using (List.getElem?_eq_some_iff.1 hu).1
  obtain ⟨b, off, e, hr⟩ := h.2.2 (by rw [← h.1]; omega)
  rw [had] at e
  obtain rfl := Option.some.inj e
  rw [add_plain, hr.2 j (by rw [← h.1]; exact hj)]
  simp [hj] at hu
  simp [List.getD_eq_getElem?_getD, hj, hu]

theorem RowAt.src {w : World} {b off n cap : Nat} {zs : List Int} (h : RowAt w b off n zs) : SrcAt w (some ⟨b, off, none⟩) n cap zs :=
  ⟨h.1, fun e => (by cases e), fun _ => ⟨b, off, rfl, h⟩⟩

theorem row_of_own {w : World} {base g n cap : Nat} {zs : List Int} (h : w.ownsRow base 5 1 (.slice (some ⟨g, 0, none⟩) n cap) n (zs.map (Value.int .u8))) : RowAt w g 0 n zs := by
  have hl : zs.length = n := by simpa using h.1
  refine ⟨hl, fun j hj => ?_⟩
  rw [Nat.zero_add, h.cellAt j (by omega)]
  have hj' : j < zs.length := by omega
  simp [List.getD_eq_getElem?_getD, hj']

/-- the same of a slice that is not nil, empty or not. -/
theorem copied_src (w : World) (x : Addr) (n cap : Nat) (zs : List Int) (h : SrcAt w (some x) n cap zs) (hn : n ≤ 1048576) :
    ∃ W0 W1, (Instr.makeSlice 22 (.int .i64 (n : Int)) (.int .i64 (n : Int))).run Try.prog w = .ok (.slice (some ⟨w.heap.size, 0, none⟩) n n) W0 ∧
      (Builtin.copy_ #[22, 22] 3 #[.slice (some ⟨w.heap.size, 0, none⟩) n n, .slice (some x) n cap]).run Try.prog W0 = .ok (.int .i64 (n : Int)) W1 ∧
      SrcAt W1 (some ⟨w.heap.size, 0, none⟩) n n zs ∧ Below w.heap.size w W1 := by
  by_cases h0 : 0 < n
  · obtain ⟨b, off, e, hr⟩ := h.2.2 h0
    obtain rfl := Option.some.inj e
    obtain ⟨W0, W1, h1, h2, h3, h4⟩ := copied w b off n cap zs hr hn
    exact ⟨W0, W1, h1, h2, h3.src, h4⟩
  · have hn0 : n = 0 := by omega
    subst hn0
    have hm := run_make_row' (P := Try.prog) 22 5 (.int .u8 0) 1 Try.underlying22 info5 rfl .i64 .i64 0 (by omega) (by omega) w
    have hcp := run_copy_none (P := Try.prog) (w.alloc (.cells (madeCells #[.int .u8 0] 0) 5)) 22 22 3 5 (some ⟨w.heap.size, 0, none⟩) (some x) 0 0 0 cap Try.underlying22 size5 rfl
    exact ⟨_, _, hm, hcp, ⟨h.1, fun e => (by cases e), fun h => absurd h (by omega)⟩, (Below.refl _ _).alloc (Nat.le_refl _) _⟩

/-- a guard's answer: a bool; where it is true, p. Nothing has turned. -/
def Guards (p : Prop) (w : World) (e : Ending) (w' : World) : Prop := ∃ b, e = .returned (.bool b) ∧ w = w' ∧ (b = true → p)
theorem Guards.mk {p : Prop} {w : World} {e : Ending} {b : Bool} (he : e = .returned (.bool b)) (h : b = true → p) : Guards p w e w := ⟨b, he, rfl, h⟩
end Go.Proofs.Qxb6617986a
