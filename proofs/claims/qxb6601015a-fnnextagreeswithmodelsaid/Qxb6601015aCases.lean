/-
  THE TOKEN's CASES at a place of the text, in the walks' words.
-/
import Derived.Test.Qxb6601015aScan
namespace Go.Proofs.Qxb6601015a.SK
open Go Go.RowKit

theorem expo_shift (kd n k : Nat) (l : List UInt8) : expo kd l (n + k) = ((expo kd l n).1, (expo kd l n).2 + k) := by
  cases l with
  | nil => rfl
  | cons c r =>
    cases r with
    | nil => rw [expo_one, expo_one]
    | cons d r =>
      by_cases he : c = 101 ∨ c = 69
      · rw [expo_yes _ _ _ _ he, expo_yes _ _ _ _ he]
        split
        · split
          · simp only [Prod.mk.injEq, true_and]; omega
          · rfl
        · split
          · simp only [Prod.mk.injEq, true_and]; omega
          · rfl
      · rw [expo_no _ _ _ he, expo_no _ _ _ he]

theorem tailN_shift (n k : Nat) (l : List UInt8) : tailN l (n + k) = ((tailN l n).1, (tailN l n).2 + k) := by
  cases l with
  | nil => rfl
  | cons c r =>
    rw [tailN, tailN]
    split
    · rw [show n + k + 1 + run dig r = n + 1 + run dig r + k from by omega, expo_shift]
    · rw [expo_shift]

/-- scanNumber's answer at q, from the text's start. -/
theorem scan_abs (L : List UInt8) (q : Nat) : tailN (L.drop (q + run dig (L.drop q))) (q + run dig (L.drop q)) = ((scanN (L.drop q)).1, (scanN (L.drop q)).2 + q) := by
  rw [scanN_eq, Nat.add_comm q, tailN_shift, List.drop_drop, Nat.add_comm q]

theorem num_abs (L : List UInt8) (q : Nat) (h : headIs dig (L.drop q) = true ∨ ∃ r, L.drop q = 46 :: r ∧ headIs dig r = true) : numA (L.drop q) 0 q q false = ((scanN (L.drop q)).2 + q, decide ((scanN (L.drop q)).1 = 3)) := by
  have := numA_shift q (L.drop q) 0 0 0 false
  rw [Nat.zero_add] at this
  rw [this, num_same _ h]; rfl

theorem str_abs (L : List UInt8) (q : Nat) : strP (L.drop (q + 1)) false (q + 1) = ((strC (L.drop (q + 1)) 1).1, (strC (L.drop (q + 1)) 1).2 + q) := by
  rw [Nat.add_comm q, strP_shift, str_same]
theorem strC_abs (L : List UInt8) (q : Nat) : strC (L.drop (q + 1)) (q + 1) = ((strC (L.drop (q + 1)) 1).1, (strC (L.drop (q + 1)) 1).2 + q) := by
  rw [← str_same, str_abs]

theorem expo_kind (kd : Nat) (l : List UInt8) (n : Nat) (h : kd = 2 ∨ kd = 3) : (expo kd l n).1 = 2 ∨ (expo kd l n).1 = 3 := by
  cases l with
  | nil => exact h
  | cons c r =>
    cases r with
    | nil => rw [expo_one]; exact h
    | cons d r =>
      by_cases he : c = 101 ∨ c = 69
      · rw [expo_yes _ _ _ _ he]
        split
        · split
          · exact Or.inr rfl
          · exact h
        · split
          · exact Or.inr rfl
          · exact h
      · rw [expo_no _ _ _ he]; exact h

theorem scanN_kind (l : List UInt8) : (scanN l).1 = 2 ∨ (scanN l).1 = 3 := by
  rw [scanN_eq]
  cases l.drop (run dig l) with
  | nil => exact Or.inl rfl
  | cons c r =>
    rw [tailN]
    split
    · exact expo_kind 3 _ _ (Or.inr rfl)
    · exact expo_kind 2 _ _ (Or.inl rfl)

/-! the cases -/
section
variable {s : ByteArray} {q : Nat}

theorem tk_eof (hn : ¬ q < s.size) : tokOf (s.data.toList.drop q) = (0, 0) := by rw [drop_nil s q hn]; rfl

theorem tk_alpha (h : q < s.size) (ha : alpha s[q] = true) : tokOf (s.data.toList.drop q) = (1, 1 + run alnum (s.data.toList.drop (q + 1))) := by
  rw [drop_cons s q h, tokOf, if_pos ha]

theorem tk_num1 (h : q < s.size) (ha : alpha s[q] = false) (hd : dig s[q] = true) : tokOf (s.data.toList.drop q) = scanN (s.data.toList.drop q) := by
  rw [drop_cons s q h, tokOf, if_neg (by simp [ha]), if_pos (by simp [hd])]

theorem tk_num2 (h : q + 1 < s.size) (hc : s[q] = 46) (hd : dig s[q + 1] = true) : tokOf (s.data.toList.drop q) = scanN (s.data.toList.drop q) := by
  rw [drop_two s q h, tokOf, if_neg (by rw [hc]; decide), if_pos (by rw [hc]; simp [headIs, hd])]

theorem tk_str (h : q < s.size) (hc : s[q] = 39) : tokOf (s.data.toList.drop q) = (if (strC (s.data.toList.drop (q + 1)) 1).1 then 4 else 7, (strC (s.data.toList.drop (q + 1)) 1).2) := by
  rw [drop_cons s q h, hc, tokOf, if_neg (by decide), if_neg (by rw [show dig 39 = false from by decide]; simp), if_pos rfl]

theorem tk_ph (h : q + 1 < s.size) (hc : s[q] = 36) (hd : dig s[q + 1] = true) : tokOf (s.data.toList.drop q) = (5, 1 + run dig (s.data.toList.drop (q + 1))) := by
  rw [drop_two s q h, hc, tokOf, if_neg (by decide), if_neg (by rw [show dig 36 = false from by decide]; simp), if_neg (by decide), if_pos (by simp [headIs, hd]), drop_cons s (q + 1) h]

theorem tk_cmt (h : q + 1 < s.size) (hc : s[q] = 47) (hn : s[q + 1] = 42) : tokOf (s.data.toList.drop q) = (7, s.size - q) := by
  rw [drop_two s q h, hc, hn, tokOf, if_neg (by decide), if_neg (by rw [show dig 47 = false from by decide]; simp), if_neg (by decide), if_neg (by simp), if_pos (by simp [headIs])]
  simp only [List.length_cons, List.length_drop, ← Lib.size_eq, Prod.mk.injEq, true_and]
  omega

/-- None of the cases above: an operator, or an illegal byte. -/
structure Rest (s : ByteArray) (q : Nat) : Prop where
  lt : q < s.size
  notAlpha : alpha s[q] = false
  notDig : dig s[q] = false
  dot : s[q] = 46 → ∀ h : q + 1 < s.size, dig s[q + 1] = false
  quote : ¬ s[q] = 39
  dollar : s[q] = 36 → ∀ h : q + 1 < s.size, dig s[q + 1] = false
  slash : s[q] = 47 → ∀ h : q + 1 < s.size, ¬ s[q + 1] = 42

theorem head_no (p : UInt8 → Bool) (h : ∀ h : q + 1 < s.size, p s[q + 1] = false) : headIs p (s.data.toList.drop (q + 1)) = false := by
  by_cases hlt : q + 1 < s.size
  · rw [drop_cons s (q + 1) hlt]; exact h hlt
  · rw [drop_nil s (q + 1) hlt]; rfl

theorem tk_rest (r : Rest s q) : tokOf (s.data.toList.drop q) = if 0 < punct (s.data.toList.drop q) then (6, punct (s.data.toList.drop q)) else (7, 1) := by
  have hq := r.lt
  rw [drop_cons s q hq, tokOf, if_neg (by simp [r.notAlpha])]
  rw [if_neg ?x1, if_neg r.quote, if_neg ?x2, if_neg ?x3]
  case x1 =>
    rw [r.notDig]
    by_cases h : s[q] = 46
    · rw [head_no dig (r.dot h)]; simp
    · simp [h]
  case x2 =>
    by_cases h : s[q] = 36
    · rw [head_no dig (r.dollar h)]; simp
    · simp [h]
  case x3 =>
    by_cases h : s[q] = 47
    · rw [head_no (· == 42) (fun h' => by simpa using r.slash h h')]; simp
    · simp [h]

/-- Every place of the text is one of these. -/
theorem tk_cases (h : q < s.size) : alpha s[q] = true ∨ (alpha s[q] = false ∧ dig s[q] = true) ∨ (∃ h1 : q + 1 < s.size, s[q] = 46 ∧ dig s[q + 1] = true) ∨ s[q] = 39 ∨ (∃ h1 : q + 1 < s.size, s[q] = 36 ∧ dig s[q + 1] = true) ∨ (∃ h1 : q + 1 < s.size, s[q] = 47 ∧ s[q + 1] = 42) ∨ Rest s q := by
  cases ha : alpha s[q] with
  | true => exact Or.inl rfl
  | false =>
    cases hd : dig s[q] with
    | true => exact Or.inr (Or.inl ⟨rfl, rfl⟩)
    | false =>
      by_cases h2 : ∃ h1 : q + 1 < s.size, s[q] = 46 ∧ dig s[q + 1] = true
      · exact Or.inr (Or.inr (Or.inl h2))
      by_cases h3 : s[q] = 39
      · exact Or.inr (Or.inr (Or.inr (Or.inl h3)))
      by_cases h4 : ∃ h1 : q + 1 < s.size, s[q] = 36 ∧ dig s[q + 1] = true
      · exact Or.inr (Or.inr (Or.inr (Or.inr (Or.inl h4))))
      by_cases h5 : ∃ h1 : q + 1 < s.size, s[q] = 47 ∧ s[q + 1] = 42
      · exact Or.inr (Or.inr (Or.inr (Or.inr (Or.inr (Or.inl h5)))))
      refine Or.inr (Or.inr (Or.inr (Or.inr (Or.inr (Or.inr ⟨h, ha, hd, ?_, h3, ?_, ?_⟩)))))
      · intro hc h1
        cases hx : dig s[q + 1] with
        | false => rfl
        | true => exact absurd ⟨h1, hc, hx⟩ h2
      · intro hc h1
        cases hx : dig s[q + 1] with
        | false => rfl
        | true => exact absurd ⟨h1, hc, hx⟩ h4
      · intro hc h1 hx
        exact h5 ⟨h1, hc, hx⟩
end
end Go.Proofs.Qxb6601015a.SK
