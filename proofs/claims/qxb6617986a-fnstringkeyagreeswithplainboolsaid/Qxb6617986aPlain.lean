/-
  Seat b6617986a: what plainBool and stringKey answer: plain functions on a list of bytes; no walk.
-/
import Derived.Test.Qxb6617986aBase
namespace Go.Proofs.Qxb6617986a
open Go.ChangeShapes Go.WideShapes Go.ChangeAt Go.RowKit

/-- the spellings that plainBool reads as true, as false; stringKey's nulls. -/
def IsYes (l : List UInt8) : Prop := l = [116, 114, 117, 101] ∨ l = [84, 114, 117, 101] ∨ l = [84, 82, 85, 69] ∨ l = [121] ∨ l = [89] ∨ l = [121, 101, 115] ∨ l = [89, 101, 115] ∨ l = [89, 69, 83] ∨ l = [111, 110] ∨ l = [79, 110] ∨ l = [79, 78]
def IsNo (l : List UInt8) : Prop := l = [102, 97, 108, 115, 101] ∨ l = [70, 97, 108, 115, 101] ∨ l = [70, 65, 76, 83, 69] ∨ l = [110] ∨ l = [78] ∨ l = [110, 111] ∨ l = [78, 111] ∨ l = [78, 79] ∨ l = [111, 102, 102] ∨ l = [79, 102, 102] ∨ l = [79, 70, 70]
def IsNull (l : List UInt8) : Prop := l = [110, 117, 108, 108] ∨ l = [78, 117, 108, 108] ∨ l = [78, 85, 76, 76]

theorem no_yes {l : List UInt8} (h : ¬ IsYes l) : (l == [116, 114, 117, 101]) = false ∧ (l == [84, 114, 117, 101]) = false ∧ (l == [84, 82, 85, 69]) = false ∧ (l == [121]) = false ∧ (l == [89]) = false ∧ (l == [121, 101, 115]) = false ∧ (l == [89, 101, 115]) = false ∧ (l == [89, 69, 83]) = false ∧ (l == [111, 110]) = false ∧ (l == [79, 110]) = false ∧ (l == [79, 78]) = false := by
  simpa [IsYes] using h
theorem no_no {l : List UInt8} (h : ¬ IsNo l) : (l == [102, 97, 108, 115, 101]) = false ∧ (l == [70, 97, 108, 115, 101]) = false ∧ (l == [70, 65, 76, 83, 69]) = false ∧ (l == [110]) = false ∧ (l == [78]) = false ∧ (l == [110, 111]) = false ∧ (l == [78, 111]) = false ∧ (l == [78, 79]) = false ∧ (l == [111, 102, 102]) = false ∧ (l == [79, 102, 102]) = false ∧ (l == [79, 70, 70]) = false := by
  simpa [IsNo] using h
theorem no_null {l : List UInt8} (h : ¬ IsNull l) : (l == [110, 117, 108, 108]) = false ∧ (l == [78, 117, 108, 108]) = false ∧ (l == [78, 85, 76, 76]) = false := by
  simpa [IsNull] using h
theorem bool_short {l : List UInt8} (h : IsYes l ∨ IsNo l) : l.length ≤ 5 := by
  rcases h with h | h
  · rcases h with rfl | rfl | rfl | rfl | rfl | rfl | rfl | rfl | rfl | rfl | rfl <;> decide
  · rcases h with rfl | rfl | rfl | rfl | rfl | rfl | rfl | rfl | rfl | rfl | rfl <;> decide
theorem null_four {l : List UInt8} (h : IsNull l) : l.length = 4 ∧ (l.getD 0 0 = 110 ∨ l.getD 0 0 = 78) := by
  rcases h with rfl | rfl | rfl <;> decide

def isB (l : List UInt8) : Bool := [[116, 114, 117, 101], [84, 114, 117, 101], [84, 82, 85, 69], [121], [89], [121, 101, 115], [89, 101, 115], [89, 69, 83], [111, 110], [79, 110], [79, 78], [102, 97, 108, 115, 101], [70, 97, 108, 115, 101], [70, 65, 76, 83, 69], [110], [78], [110, 111], [78, 111], [78, 79], [111, 102, 102], [79, 102, 102], [79, 70, 70]].contains l
def isN (l : List UInt8) : Bool := [[110, 117, 108, 108], [78, 117, 108, 108], [78, 85, 76, 76]].contains l
theorem isB_iff (l : List UInt8) : isB l = true ↔ IsYes l ∨ IsNo l := by
  simp [isB, IsYes, IsNo, or_assoc]
theorem isN_iff (l : List UInt8) : isN l = true ↔ IsNull l := by
  simp [isN, IsNull]

/-- stringKey's first switch: a sign, a dot, a tilde, '<', a digit. -/
def mark (z : Int) : Bool := decide (48 ≤ z ∧ z ≤ 57) || (z == 43 || (z == 45 || (z == 46 || (z == 126 || z == 60))))
theorem mark_true {z : Int} (h : mark z = true) : z = 43 ∨ z = 45 ∨ z = 46 ∨ z = 126 ∨ z = 60 ∨ z = 48 ∨ z = 49 ∨ z = 50 ∨ z = 51 ∨ z = 52 ∨ z = 53 ∨ z = 54 ∨ z = 55 ∨ z = 56 ∨ z = 57 := by
  simp [mark] at h
  omega
theorem mark_false {z : Int} (h : mark z = false) : (z == 43) = false ∧ (z == 45) = false ∧ (z == 46) = false ∧ (z == 126) = false ∧ (z == 60) = false ∧ (z == 48) = false ∧ (z == 49) = false ∧ (z == 50) = false ∧ (z == 51) = false ∧ (z == 52) = false ∧ (z == 53) = false ∧ (z == 54) = false ∧ (z == 55) = false ∧ (z == 56) = false ∧ (z == 57) = false := by
  simp [mark] at h ⊢
  omega

theorem mark_range {z : Int} (h : mark z = false) : z < 48 ∨ 57 < z := by
  simp [mark] at h
  omega

/-- what stringKey answers. -/
def skey (l : List UInt8) : Bool := !mark ((l.getD 0 0).toNat : Int) && (!isB l && !isN l)

theorem long_not {l : List UInt8} (h : 5 < l.length) : isB l = false ∧ isN l = false := by
  constructor
  · cases hb : isB l with
    | false => rfl
    | true => have := bool_short ((isB_iff l).1 hb); omega
  · cases hb : isN l with
    | false => rfl
    | true => have := (null_four ((isN_iff l).1 hb)).1; omega

theorem skey_long {l : List UInt8} (h : 5 < l.length) : skey l = !mark ((l.getD 0 0).toNat : Int) := by
  unfold skey
  rw [(long_not h).1, (long_not h).2]
  simp

/-- the bytes as numbers. -/
def ints (l : List UInt8) : List Int := l.map fun b => (b.toNat : Int)
theorem ints_length (l : List UInt8) : (ints l).length = l.length := by simp [ints]
theorem ints_at (l : List UInt8) (j : Nat) : (ints l).getD j 0 = ((l.getD j 0).toNat : Int) := by
  simp only [ints, List.getD_eq_getElem?_getD, List.getElem?_map]
  cases l[j]? <;> rfl

theorem cv_key {w : World} {b off n : Nat} {l : List UInt8} (h : RowAt w b off n (ints l)) (cap : Nat) : (convert 22 9 (.slice (some ⟨b, off, none⟩) n cap)).run Try.prog w = .ok (.string ⟨l.toArray⟩) w := by
  have hl : l.length = n := by rw [← ints_length]; exact h.1
  have := run_convert_bytes_back (P := Try.prog) w 22 9 5 ⟨b, off, none⟩ cap l Try.underlying22 Try.underlying5 Try.underlying9 (fun j hj => by
    rw [add_plain, h.2 j (by omega), ints_at]
    simp [List.getD_eq_getElem?_getD, hj])
  rw [hl] at this
  exact this
end Go.Proofs.Qxb6617986a
