/-
  Seat b6617426a: the plain law of the scanner: no Go in sight.
-/
namespace Go.Proofs.Qxb6617426a

/-- how many numbers of l the scanner passes: to the first 34 that no 92 ahead of it takes away, that one with it; else all. -/
def scan : List Int → Nat
  | [] => 0
  | [_] => 1
  | c :: d :: r => if c = 92 then 2 + scan r else if c = 34 then 1 else 1 + scan (d :: r)

theorem scan_le : ∀ l : List Int, scan l ≤ l.length
  | [] => by simp [scan]
  | [_] => by simp [scan]
  | c :: d :: r => by
    have h1 := scan_le r
    have h2 := scan_le (d :: r)
    simp only [scan, List.length_cons] at *
    split
    · omega
    · split <;> omega

theorem scan_pos : ∀ l : List Int, l ≠ [] → 1 ≤ scan l
  | [], h => absurd rfl h
  | [_], _ => by simp [scan]
  | c :: d :: r, _ => by
    simp only [scan]
    split
    · omega
    · split <;> omega

/-- where it stops ahead of the end it has passed a 34. -/
theorem scan_quote : ∀ l : List Int, scan l < l.length → l.getD (scan l - 1) 0 = 34
  | [], h => by simp [scan] at h
  | [_], h => by simp [scan] at h
  | c :: d :: r, h => by
    simp only [scan, List.length_cons] at *
    by_cases hc : c = 92
    · rw [if_pos hc] at h ⊢
      have hr : scan r < r.length := by omega
      have h1 := scan_quote r hr
      have hp : 1 ≤ scan r := scan_pos r (fun e => by rw [e] at hr; simp at hr)
      rw [show 2 + scan r - 1 = (scan r - 1) + 1 + 1 by omega]
      simpa [List.getD_eq_getElem?_getD] using h1
    · rw [if_neg hc] at h ⊢
      by_cases hq : c = 34
      · rw [if_pos hq]
        simp [hq]
      · rw [if_neg hq] at h ⊢
        have h1 := scan_quote (d :: r) (by simp only [List.length_cons]; omega)
        have hp : 1 ≤ scan (d :: r) := scan_pos _ (by simp)
        rw [show 1 + scan (d :: r) - 1 = (scan (d :: r) - 1) + 1 by omega]
        simpa [List.getD_eq_getElem?_getD] using h1

/-- inside a longer list. -/
theorem scan_append : ∀ l y : List Int, (scan l < l.length → scan (l ++ y) = scan l) ∧ (scan l = l.length → l.length ≤ scan (l ++ y))
  | [], y => by simp [scan]
  | [c], [] => by simp [scan]
  | [c], d :: r => by
    simp only [scan, List.length_cons, List.length_nil, List.cons_append, List.nil_append]
    refine ⟨fun h => absurd h (by omega), fun _ => ?_⟩
    split
    · omega
    · split <;> omega
  | c :: d :: r, y => by
    have h1 := scan_append r y
    have h2 := scan_append (d :: r) y
    have e : c :: d :: r ++ y = c :: d :: (r ++ y) := rfl
    have e2 : d :: r ++ y = d :: (r ++ y) := rfl
    rw [e]
    rw [e2] at h2
    simp only [scan, List.length_cons] at *
    by_cases hc : c = 92
    · simp only [if_pos hc]
      exact ⟨fun h => by rw [h1.1 (by omega)], fun h => by have := h1.2 (by omega); omega⟩
    · simp only [if_neg hc]
      by_cases hq : c = 34
      · simp only [if_pos hq]
        exact ⟨fun _ => trivial, fun h => by omega⟩
      · simp only [if_neg hq]
        exact ⟨fun h => by rw [h2.1 (by omega)], fun h => by have := h2.2 (by omega); omega⟩

/-- on a shorter list. -/
theorem scan_take : ∀ (l : List Int) (c : Nat), scan (l.take c) = min (scan l) c
  | [], c => by simp [scan]
  | [x], 0 => by simp [scan]
  | [x], c + 1 => by
    simp only [List.take_succ_cons, List.take_nil, scan]
    omega
  | x :: d :: r, 0 => by simp [scan]
  | x :: d :: r, 1 => by
    have := scan_pos (x :: d :: r) (by simp)
    simp only [List.take_succ_cons, List.take_zero]
    rw [show scan [x] = 1 from rfl]
    omega
  | x :: d :: r, c + 2 => by
    have h1 := scan_take r c
    have h2 := scan_take (d :: r) (c + 1)
    simp only [List.take_succ_cons] at *
    simp only [scan]
    by_cases hc : x = 92
    · simp only [if_pos hc]
      rw [h1]
      omega
    · simp only [if_neg hc]
      by_cases hq : x = 34
      · simp only [if_pos hq]
        omega
      · simp only [if_neg hq]
        rw [h2]
        omega

/-- the model's way: a run of 92s is counted. -/
def clo : Nat → List Int → Nat
  | _, [] => 0
  | run, c :: l => if c = 92 then 1 + clo (run + 1) l else if c = 34 ∧ run % 2 = 0 then 1 else 1 + clo 0 l

/-- the model, said by the scanner. -/
theorem clo_scan : ∀ (l : List Int) (run : Nat), (run % 2 = 0 → clo run l = scan l) ∧ (run % 2 = 1 → clo run l = (match l with | [] => 0 | _ :: r => 1 + scan r))
  | [], run => by simp [clo, scan]
  | [c], run => by
    simp only [clo, scan]
    constructor
    · intro _
      split
      · omega
      · split <;> omega
    · intro h
      split
      · omega
      · split <;> omega
  | c :: d :: r, run => by
    have h := clo_scan (d :: r)
    simp only [clo, scan]
    constructor
    · intro h0
      by_cases hc : c = 92
      · simp only [if_pos hc]
        have := (h (run + 1)).2 (by omega)
        simp only [clo] at this
        rw [this]
        omega
      · simp only [if_neg hc]
        by_cases hq : c = 34
        · rw [if_pos ⟨hq, h0⟩, if_pos hq]
        · rw [if_neg (fun e => hq e.1), if_neg hq]
          have := (h 0).1 rfl
          simp only [clo] at this
          rw [this]
    · intro h1
      by_cases hc : c = 92
      · simp only [if_pos hc]
        have := (h (run + 1)).1 (by omega)
        simp only [clo] at this
        rw [this]
      · simp only [if_neg hc]
        rw [if_neg (fun e => by omega)]
        have := (h 0).1 rfl
        simp only [clo] at this
        rw [this]

/-- the answer of endOfString. -/
def eos (zs : List Int) (start : Nat) : Nat := start + 1 + scan (zs.drop (start + 1))

theorem eos_lo (zs : List Int) (start : Nat) : start < eos zs start := by unfold eos; omega
theorem eos_hi (zs : List Int) (start : Nat) (h : start < zs.length) : eos zs start ≤ zs.length := by
  have := scan_le (zs.drop (start + 1))
  rw [List.length_drop] at this
  unfold eos
  omega
theorem eos_quote (zs : List Int) (start : Nat) (h : eos zs start < zs.length) : start + 2 ≤ eos zs start ∧ zs.getD (eos zs start - 1) 0 = 34 := by
  unfold eos at *
  have hl : scan (zs.drop (start + 1)) < (zs.drop (start + 1)).length := by rw [List.length_drop]; omega
  have hp : 1 ≤ scan (zs.drop (start + 1)) := scan_pos _ (fun e => by rw [e] at hl; simp at hl)
  refine ⟨by omega, ?_⟩
  have := scan_quote _ hl
  rw [List.getD_eq_getElem?_getD, List.getElem?_drop] at this
  rw [List.getD_eq_getElem?_getD, ← this]
  congr 2
  omega
theorem eos_inside (xs zs ys : List Int) (start : Nat) (h : start < zs.length) :
    (eos zs start < zs.length → eos (xs ++ zs ++ ys) (xs.length + start) = xs.length + eos zs start) ∧
    (¬ eos zs start < zs.length → xs.length + zs.length ≤ eos (xs ++ zs ++ ys) (xs.length + start) ∧ eos (xs ++ zs ++ ys) (xs.length + start) ≤ (xs ++ zs ++ ys).length) := by
  have hd : (xs ++ zs ++ ys).drop (xs.length + start + 1) = zs.drop (start + 1) ++ ys := by
    rw [List.append_assoc, show xs.length + start + 1 = xs.length + (start + 1) by omega, List.drop_append, List.drop_eq_nil_of_le (Nat.le_add_right _ _), Nat.add_sub_cancel_left, List.nil_append, List.drop_append_of_le_length (by omega)]
  have hi := eos_hi zs start h
  have hall := eos_hi (xs ++ zs ++ ys) (xs.length + start) (by simp only [List.length_append]; omega)
  have ha := scan_append (zs.drop (start + 1)) ys
  have hl : (zs.drop (start + 1)).length = zs.length - (start + 1) := List.length_drop
  unfold eos at *
  rw [hd] at *
  refine ⟨fun hlt => by rw [ha.1 (by omega)]; omega, fun hge => ⟨?_, hall⟩⟩
  have := ha.2 (by omega)
  omega
theorem eos_cut (zs : List Int) (start cut : Nat) (h1 : start < cut) : eos (zs.take cut) start = min (eos zs start) cut := by
  unfold eos
  have hd : (zs.take cut).drop (start + 1) = (zs.drop (start + 1)).take (cut - (start + 1)) := by rw [List.drop_take]
  rw [hd, scan_take]
  omega
end Go.Proofs.Qxb6617426a
