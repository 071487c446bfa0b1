/-
  Seat b6617423a: plain facts on worlds, no walk. 'BytesIn': a slice value over a block of bytes that the call itself made. 'IsBytes': a slice value, nil or not, whose elements are the bytes s.
-/
import Derived.Test.Qxb6617423aRows
import Derived.WalkKit
import Derived.ProofKit
import Derived.Below
import Derived.Laws.IdiomStrings
namespace Go.Proofs.Qxb6617423a
open Go.ChangeShapes Go.WideShapes Go.ChangeAt Go.RowKit

/-- the bytes s lie in a block of bytes, from its head on. -/
def BytesIn (w : World) (v : Value) (s : ByteArray) : Prop :=
  ∃ (g cap : Nat) (cur : Array Value) (fr : Nat × Nat), v = .slice (some ⟨g, 0, none⟩) s.size cap ∧ w.heap[g]? = some (Obj.cells cur 5 fr) ∧ ∀ j (hj : j < s.size), cur[j]? = some (.int .u8 (s[j].toNat : Int))

def AllIn (w : World) (vs : List Value) (ss : List ByteArray) : Prop :=
  vs.length = ss.length ∧ ∀ (i : Nat) (v : Value) (s : ByteArray), vs[i]? = some v → ss[i]? = some s → BytesIn w v s

theorem BytesIn.kept {w w' : World} {v : Value} {s : ByteArray} (h : BytesIn w v s) (hk : ∀ (g : Nat) (cur : Array Value) (fr : Nat × Nat), w.heap[g]? = some (Obj.cells cur 5 fr) → w'.heap[g]? = w.heap[g]?) : BytesIn w' v s := by
  obtain ⟨g, cap, cur, fr, hv, hg, hc⟩ := h
  exact ⟨g, cap, cur, fr, hv, (hk g cur fr hg).trans hg, hc⟩

theorem AllIn.kept {w w' : World} {vs : List Value} {ss : List ByteArray} (h : AllIn w vs ss) (hk : ∀ (g : Nat) (cur : Array Value) (fr : Nat × Nat), w.heap[g]? = some (Obj.cells cur 5 fr) → w'.heap[g]? = w.heap[g]?) : AllIn w' vs ss :=
  ⟨h.1, fun i v s hv hs => (h.2 i v s hv hs).kept hk⟩

theorem lt_of_heap {w : World} {g : Nat} {o : Obj} (h : w.heap[g]? = some o) : g < w.heap.size := (Array.getElem?_eq_some_iff.1 h).1

theorem AllIn.alloc {w : World} {vs : List Value} {ss : List ByteArray} (h : AllIn w vs ss) (o : Obj) : AllIn (w.alloc o) vs ss :=
  h.kept fun g _ _ hg => Below.heap_alloc w o g (lt_of_heap hg)

theorem AllIn.snoc {w : World} {vs : List Value} {ss : List ByteArray} (h : AllIn w vs ss) {v : Value} {s : ByteArray} (hb : BytesIn w v s) : AllIn w (vs ++ [v]) (ss ++ [s]) := by
  refine ⟨by simp [h.1], fun i u t hu ht => ?_⟩
  by_cases hi : i < vs.length
  · rw [List.getElem?_append_left hi] at hu
    rw [List.getElem?_append_left (by rw [← h.1]; exact hi)] at ht
    exact h.2 i u t hu ht
  · rw [List.getElem?_append_right (by omega)] at hu
    rw [List.getElem?_append_right (by rw [← h.1]; omega), ← h.1] at ht
    match i - vs.length, hu, ht with
    | 0, hu, ht => simp at hu ht; subst hu; subst ht; exact hb
    | n + 1, hu, _ => simp at hu

/-- behind an append onto a row of slices nothing of the bytes has turned. -/
theorem AllIn.grown {w w' : World} {vs : List Value} {ss : List ByteArray} (h : AllIn w vs ss) {base : Nat} {v : Value} {n : Nat} {xs : List Value} (ho : w.ownsRow base 31 1 v n xs) (hg : w.grownBy w' v.ownBlock) : AllIn w' vs ss := by
  refine h.kept fun g cur fr hgg => hg.block g (lt_of_heap hgg) fun e => ?_
  rcases ho.2 with ⟨rfl, _⟩ | ⟨g', cap, cur', rfl, _, hh, _⟩
  · simp [Value.ownBlock] at e
  · simp [Value.ownBlock] at e
    subst e
    rw [hgg] at hh
    simp at hh

/-! ### '[]byte(s)': the world behind it, under a name -/
def cvCap (w : World) (s : ByteArray) : Nat := grownCap w s.size 0 5
def cvW (w : World) (s : ByteArray) : World := w.drew.alloc (.cells (bytesRow s (cvCap w s)) 5 ((bytesRow s (cvCap w s)).size, (bytesRow s (cvCap w s)).size + 1))

theorem run_cv (w : World) (s : ByteArray) : (convert 9 31 (.string s)).run Try.prog w = .ok (.slice (some ⟨w.heap.size, 0, none⟩) s.size (cvCap w s)) (cvW w s) :=
  run_bytes_of_string w 9 31 5 s Try.underlying9 Try.underlying31 Try.underlying5
theorem cv_size (w : World) (s : ByteArray) : (cvW w s).heap.size = w.heap.size + 1 := by simp [cvW]
theorem cv_cell (w : World) (s : ByteArray) (b o : Nat) (h : b < w.heap.size) : (cvW w s).cell? ⟨b, o, none⟩ = w.cell? ⟨b, o, none⟩ := by
  unfold cvW
  rw [World.cell?_alloc_lt _ _ _ h]
  rfl
theorem cv_old (w : World) (s : ByteArray) (g : Nat) (h : g < w.heap.size) : (cvW w s).heap[g]? = w.heap[g]? := by
  exact Below.heap_alloc w.drew _ g h
theorem cv_in (w : World) (s : ByteArray) : BytesIn (cvW w s) (.slice (some ⟨w.heap.size, 0, none⟩) s.size (cvCap w s)) s := by
  exact ⟨w.heap.size, cvCap w s, bytesRow s (cvCap w s), _, rfl, heap_alloc_new w.drew _, fun j hj => bytesRow_at s _ j hj⟩
theorem AllIn.cv {w : World} {vs : List Value} {ss : List ByteArray} (h : AllIn w vs ss) (s : ByteArray) : AllIn (cvW w s) vs ss :=
  h.kept fun g _ _ hg => cv_old w s g (lt_of_heap hg)
theorem below_cv {B : Nat} {a w : World} (h : Below B a w) (hB : B ≤ w.heap.size) (s : ByteArray) : Below B a (cvW w s) :=
  (h.drew).alloc hB _
theorem owns_cv {w : World} {base : Nat} {e : TypeId} {size : Nat} {v : Value} {n : Nat} {xs : List Value} (h : w.ownsRow base e size v n xs) (s : ByteArray) : (cvW w s).ownsRow base e size v n xs :=
  (h.drew).alloc _

/-! ### a slice of bytes, nil or not -/
def IsBytes (w : World) (v : Value) (s : ByteArray) : Prop :=
  ∃ ao cap, v = .slice ao s.size cap ∧ (ao = none → s.size = 0) ∧ ∀ a, ao = some a → ∀ j (hj : j < s.size), w.cell? (a.add j) = some (.int .u8 (s[j].toNat : Int))

theorem BytesIn.is {w : World} {v : Value} {s : ByteArray} (h : BytesIn w v s) : IsBytes w v s := by
  obtain ⟨g, cap, cur, fr, rfl, hg, hc⟩ := h
  refine ⟨some ⟨g, 0, none⟩, cap, rfl, fun h => (by cases h), fun a ha j hj => ?_⟩
  obtain rfl := Option.some.inj ha
  rw [Addr.add_lit, Nat.zero_add, cell_of_row w g j cur 5 fr hg]
  exact hc j hj

theorem IsBytes.below {B : Nat} {w w' : World} {v : Value} {s : ByteArray} (h : IsBytes w v s) (hb : Below B w w') (hB : w.heap.size ≤ B) : IsBytes w' v s := by
  obtain ⟨ao, cap, rfl, hn, hc⟩ := h
  refine ⟨ao, cap, rfl, hn, fun a ha j hj => ?_⟩
  have := hc a ha j hj
  rw [hb.cell (Nat.lt_of_lt_of_le (World.block_lt_of_cell? w _ this) hB)]
  exact this

/-- 'string(b)' -/
theorem run_back {w : World} {v : Value} {s : ByteArray} (h : IsBytes w v s) : (convert 31 9 v).run Try.prog w = .ok (.string s) w := by
  obtain ⟨ao, cap, rfl, hn, hc⟩ := h
  cases ao with
  | some a =>
    have := run_convert_bytes_back (P := Try.prog) w 31 9 5 a cap s.data.toList Try.underlying31 Try.underlying5 Try.underlying9 (fun j hj => by
      have hj' : j < s.size := by simpa using hj
      have e : s.data.toList[j] = s[j] := by rw [Array.getElem_toList]; rfl
      rw [e]
      exact hc a rfl j hj')
    simpa using this
  | none =>
    have h0 := hn rfl
    have hs : s = ⟨#[]⟩ := by
      cases s with
      | mk d => simp [ByteArray.size] at h0; simp [h0]
    subst hs
    rw [run_convert_bytes_string w 31 9 5 none _ cap Try.underlying31 Try.underlying5 Try.underlying9]
    simp [Conv.bytesToString]
    rfl
end Go.Proofs.Qxb6617423a
