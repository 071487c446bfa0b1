/-
  Seat b6617442a: Porter's measure, the plain law: no Go in sight.
-/
namespace Go.Proofs.Qxb6617442a

def aeiou (z : Int) : Bool := z == 97 || (z == 101 || (z == 105 || (z == 111 || z == 117)))

/-- is the letter at i a consonant? -/
def cons (zs : List Int) : Nat → Bool
  | 0 => !aeiou (zs.getD 0 0)
  | i + 1 => if aeiou (zs.getD (i + 1) 0) then false else if zs.getD (i + 1) 0 = 121 then !cons zs i else true

/-- was the letter ahead of k a vowel? -/
def after (zs : List Int) : Nat → Bool
  | 0 => false
  | k + 1 => !cons zs k

/-- the measure of the first k letters. -/
def meas (zs : List Int) : Nat → Nat
  | 0 => 0
  | k + 1 => meas zs k + (if cons zs k && after zs k then 1 else 0)

theorem aeiou_121 : aeiou 121 = false := by decide

theorem cons_vowel (zs : List Int) (i : Nat) (h : aeiou (zs.getD i 0) = true) : cons zs i = false := by
  cases i with
  | zero => simp only [cons, h, Bool.not_true]
  | succ i => simp only [cons, h, if_true]

theorem cons_plain (zs : List Int) (i : Nat) (h : aeiou (zs.getD i 0) = false) (hy : zs.getD i 0 ≠ 121) : cons zs i = true := by
  cases i with
  | zero => simp only [cons, h, Bool.not_false]
  | succ i => simp only [cons, h, Bool.false_eq_true, if_false, if_neg hy]

theorem cons_y0 (zs : List Int) (hy : zs.getD 0 0 = 121) : cons zs 0 = true := by
  simp only [cons, hy, aeiou_121, Bool.not_false]

theorem cons_y (zs : List Int) (i : Nat) (hy : zs.getD (i + 1) 0 = 121) : cons zs (i + 1) = !cons zs i := by
  simp only [cons, hy, aeiou_121, Bool.false_eq_true, if_false, if_true]

theorem meas_le (zs : List Int) : ∀ k, meas zs k ≤ k
  | 0 => by simp [meas]
  | k + 1 => by
    have := meas_le zs k
    simp only [meas]
    split <;> omega

theorem cons_append (zs ys : List Int) : ∀ i, i < zs.length → cons (zs ++ ys) i = cons zs i
  | 0, h => by
    have e : (zs ++ ys).getD 0 0 = zs.getD 0 0 := by rw [List.getD_eq_getElem?_getD, List.getElem?_append_left h, List.getD_eq_getElem?_getD]
    simp only [cons, e]
  | i + 1, h => by
    have e : (zs ++ ys).getD (i + 1) 0 = zs.getD (i + 1) 0 := by rw [List.getD_eq_getElem?_getD, List.getElem?_append_left h, List.getD_eq_getElem?_getD]
    simp only [cons, e, cons_append zs ys i (by omega)]

theorem after_append (zs ys : List Int) (k : Nat) (h : k ≤ zs.length) : after (zs ++ ys) k = after zs k := by
  cases k with
  | zero => rfl
  | succ k => simp only [after, cons_append zs ys k (by omega)]

theorem meas_append (zs ys : List Int) : ∀ k, k ≤ zs.length → meas (zs ++ ys) k = meas zs k
  | 0, _ => rfl
  | k + 1, h => by simp only [meas, meas_append zs ys k (by omega), cons_append zs ys k (by omega), after_append zs ys k (by omega)]

/-- along a run of y's vowel and consonant alternate: from j on to i. -/
def Run (zs : List Int) (i j : Nat) : Prop := j ≤ i ∧ zs.getD j 0 = 121 ∧ cons zs i = (cons zs j != ((i - j) % 2 == 1))

theorem run_start (zs : List Int) (i : Nat) (h : zs.getD i 0 = 121) : Run zs i i := by
  refine ⟨Nat.le_refl _, h, ?_⟩
  simp

theorem run_step (zs : List Int) (i j : Nat) (h : Run zs i (j + 1)) (hy : zs.getD j 0 = 121) : Run zs i j := by
  obtain ⟨h1, h2, h3⟩ := h
  refine ⟨by omega, hy, ?_⟩
  rw [h3, cons_y zs j h2]
  have e : ((i - j) % 2 == 1) = !((i - (j + 1)) % 2 == 1) := by
    rcases Nat.mod_two_eq_zero_or_one (i - (j + 1)) with h | h
    · have : (i - j) % 2 = 1 := by omega
      simp [h, this]
    · have : (i - j) % 2 = 0 := by omega
      simp [h, this]
  rw [e]
  cases cons zs j <;> cases ((i - (j + 1)) % 2 == 1) <;> rfl

/-- at the run's head. -/
theorem run_end0 (zs : List Int) (i : Nat) (h : Run zs i 0) : (false != (i % 2 == 1)) = !cons zs i := by
  obtain ⟨_, h2, h3⟩ := h
  rw [h3, cons_y0 zs h2, Nat.sub_zero]
  cases (i % 2 == 1) <;> rfl

theorem run_end (zs : List Int) (i j : Nat) (h : Run zs i (j + 1)) (hy : zs.getD j 0 ≠ 121) : ((!aeiou (zs.getD j 0)) != ((i - (j + 1)) % 2 == 1)) = !cons zs i := by
  obtain ⟨_, h2, h3⟩ := h
  have hc : cons zs j = !aeiou (zs.getD j 0) := by
    cases ha : aeiou (zs.getD j 0) with
    | true => rw [cons_vowel zs j ha]; rfl
    | false => rw [cons_plain zs j ha hy]; rfl
  rw [h3, cons_y zs j h2, hc]
  cases aeiou (zs.getD j 0) <;> cases ((i - (j + 1)) % 2 == 1) <;> rfl

theorem after_succ (zs : List Int) (k : Nat) : after zs (k + 1) = !cons zs k := rfl

/-- the model's count of groups. -/
def grp (zs : List Int) (k : Nat) : Nat := meas zs k + (if after zs k then 1 else 0)

theorem grp_vowel_new (zs : List Int) (k : Nat) (h1 : cons zs k = false) (h2 : after zs k = false) : grp zs (k + 1) = grp zs k + 1 ∧ after zs (k + 1) = true := by
  simp [grp, meas, after_succ, h1, h2]
theorem grp_vowel_old (zs : List Int) (k : Nat) (h1 : cons zs k = false) (h2 : after zs k = true) : grp zs (k + 1) = grp zs k ∧ after zs (k + 1) = true := by
  simp [grp, meas, after_succ, h1, h2]
theorem grp_cons (zs : List Int) (k : Nat) (h1 : cons zs k = true) : grp zs (k + 1) = grp zs k ∧ after zs (k + 1) = false := by
  cases h2 : after zs k <;> simp [grp, meas, after_succ, h1, h2]
theorem grp_le (zs : List Int) (k : Nat) : grp zs k ≤ k + 1 := by
  have := meas_le zs k
  unfold grp
  split <;> omega
end Go.Proofs.Qxb6617442a
