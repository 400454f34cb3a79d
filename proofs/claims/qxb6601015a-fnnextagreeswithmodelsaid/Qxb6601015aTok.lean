/-
  THE PLAIN LAWS behind Next: tokens over lists of bytes, no Go.
-/
import Derived.Test.Qxb6601015aPlain
namespace Go.Proofs.Qxb6601015a.SK
open Go

def dig (c : UInt8) : Bool := decide (48 ≤ c.toNat) && decide (c.toNat ≤ 57)
def alpha (c : UInt8) : Bool := (decide (97 ≤ c.toNat) && decide (c.toNat ≤ 122)) || (decide (65 ≤ c.toNat) && decide (c.toNat ≤ 90)) || decide (c.toNat = 95)
def alnum (c : UInt8) : Bool := alpha c || dig c

/-- How many bytes at the head meet p. -/
def run (p : UInt8 → Bool) : List UInt8 → Nat
  | [] => 0
  | c :: l => if p c then 1 + run p l else 0

theorem run_le (p : UInt8 → Bool) : ∀ l, run p l ≤ l.length
  | [] => Nat.le_refl _
  | c :: l => by
    have := run_le p l
    unfold run
    simp only [List.length_cons]
    split <;> omega

def headIs (p : UInt8 → Bool) : List UInt8 → Bool
  | [] => false
  | c :: _ => p c

/-! numbers: as scanNumber reads them -/
def expo (kd : Nat) (l : List UInt8) (n : Nat) : Nat × Nat :=
  match l with
  | [] => (kd, n)
  | c :: r =>
    if c = 101 ∨ c = 69 then
      match r with
      | [] => (kd, n)
      | d :: r' =>
        if d = 43 ∨ d = 45 then (if headIs dig r' then (3, n + 2 + run dig r') else (kd, n))
        else (if dig d then (3, n + 1 + run dig r) else (kd, n))
    else (kd, n)

def scanN (l : List UInt8) : Nat × Nat :=
  match l.drop (run dig l) with
  | [] => expo 2 [] (run dig l)
  | c :: r => if c = 46 then expo 3 (r.drop (run dig r)) (run dig l + 1 + run dig r) else expo 2 (c :: r) (run dig l)

/-! numbers: as the automaton reads them: what is left, the state, the place, the end so far, 'a Decimal so far' -/
def nxt (st : Nat) (c : UInt8) : Option Nat :=
  match st with
  | 0 => if dig c then some 1 else if c = 46 then some 2 else none
  | 1 => if dig c then some 1 else if c = 46 then some 3 else if c = 101 ∨ c = 69 then some 5 else none
  | 2 => if dig c then some 4 else none
  | 3 => if dig c then some 4 else if c = 101 ∨ c = 69 then some 5 else none
  | 4 => if dig c then some 4 else if c = 101 ∨ c = 69 then some 5 else none
  | 5 => if dig c then some 7 else if c = 43 ∨ c = 45 then some 6 else none
  | 6 => if dig c then some 7 else none
  | _ => if dig c then some 7 else none

def numA : List UInt8 → Nat → Nat → Nat → Bool → Nat × Bool
  | [], _, _, e, dec => (e, dec)
  | c :: l, st, i, e, dec =>
    match nxt st c with
    | none => (e, dec)
    | some s => if s = 1 then numA l s (i + 1) (i + 1) false else if s = 3 ∨ s = 4 ∨ s = 7 then numA l s (i + 1) (i + 1) true else numA l s (i + 1) e dec

def kn (r : Nat × Nat) : Nat × Bool := (r.2, decide (r.1 = 3))

theorem dig_not {c : UInt8} (h : dig c = true) : c ≠ 46 ∧ c ≠ 101 ∧ c ≠ 69 ∧ c ≠ 43 ∧ c ≠ 45 := by
  unfold dig at h
  simp only [Bool.and_eq_true, decide_eq_true_eq] at h
  refine ⟨?_, ?_, ?_, ?_, ?_⟩ <;> (rintro rfl; revert h; decide)

theorem step1 {st : Nat} {c : UInt8} {l : List UInt8} {i e : Nat} {dec : Bool} (h : nxt st c = some 1) : numA (c :: l) st i e dec = numA l 1 (i + 1) (i + 1) false := by
  rw [numA, h]; rfl
theorem step3 {st : Nat} {c : UInt8} {l : List UInt8} {i e : Nat} {dec : Bool} (h : nxt st c = some 3) : numA (c :: l) st i e dec = numA l 3 (i + 1) (i + 1) true := by
  rw [numA, h]; rfl
theorem step4 {st : Nat} {c : UInt8} {l : List UInt8} {i e : Nat} {dec : Bool} (h : nxt st c = some 4) : numA (c :: l) st i e dec = numA l 4 (i + 1) (i + 1) true := by
  rw [numA, h]; rfl
theorem step7 {st : Nat} {c : UInt8} {l : List UInt8} {i e : Nat} {dec : Bool} (h : nxt st c = some 7) : numA (c :: l) st i e dec = numA l 7 (i + 1) (i + 1) true := by
  rw [numA, h]; rfl
theorem step2 {st : Nat} {c : UInt8} {l : List UInt8} {i e : Nat} {dec : Bool} (h : nxt st c = some 2) : numA (c :: l) st i e dec = numA l 2 (i + 1) e dec := by
  rw [numA, h]; rfl
theorem step5 {st : Nat} {c : UInt8} {l : List UInt8} {i e : Nat} {dec : Bool} (h : nxt st c = some 5) : numA (c :: l) st i e dec = numA l 5 (i + 1) e dec := by
  rw [numA, h]; rfl
theorem step6 {st : Nat} {c : UInt8} {l : List UInt8} {i e : Nat} {dec : Bool} (h : nxt st c = some 6) : numA (c :: l) st i e dec = numA l 6 (i + 1) e dec := by
  rw [numA, h]; rfl
theorem stepN {st : Nat} {c : UInt8} {l : List UInt8} {i e : Nat} {dec : Bool} (h : nxt st c = none) : numA (c :: l) st i e dec = (e, dec) := by
  rw [numA, h]

theorem run_yes {p : UInt8 → Bool} {c : UInt8} (l : List UInt8) (h : p c = true) : run p (c :: l) = run p l + 1 := by
  rw [run, if_pos h, Nat.add_comm]
theorem run_no {p : UInt8 → Bool} {c : UInt8} (l : List UInt8) (h : ¬ p c = true) : run p (c :: l) = 0 := by
  rw [run, if_neg h]

theorem expo_nil (kd n : Nat) : expo kd [] n = (kd, n) := rfl
theorem expo_one (kd n : Nat) (c : UInt8) : expo kd [c] n = (kd, n) := by
  unfold expo; simp only; split <;> rfl
theorem expo_no {c : UInt8} (kd n : Nat) (r : List UInt8) (h : ¬ (c = 101 ∨ c = 69)) : expo kd (c :: r) n = (kd, n) := by
  unfold expo; simp only; rw [if_neg h]
theorem expo_yes {c : UInt8} (kd n : Nat) (d : UInt8) (r : List UInt8) (h : c = 101 ∨ c = 69) : expo kd (c :: d :: r) n = if d = 43 ∨ d = 45 then (if headIs dig r then (3, n + 2 + run dig r) else (kd, n)) else (if dig d then (3, n + 1 + run dig (d :: r)) else (kd, n)) := by
  unfold expo; simp only; rw [if_pos h]

theorem numA7 : ∀ (l : List UInt8) (i : Nat), numA l 7 i i true = (i + run dig l, true)
  | [], i => rfl
  | c :: l, i => by
    by_cases h : dig c = true
    · rw [step7 (by simp [nxt, h]), numA7 l (i + 1), run_yes l h, Nat.add_assoc, Nat.add_comm 1]
    · rw [stepN (by simp [nxt, h]), run_no l h]; rfl

theorem numA6 (l : List UInt8) (i e : Nat) (dec : Bool) : numA l 6 i e dec = if headIs dig l then (i + run dig l, true) else (e, dec) := by
  cases l with
  | nil => rfl
  | cons c l =>
    by_cases h : dig c = true
    · rw [step7 (by simp [nxt, h]), numA7, if_pos (show headIs dig (c :: l) = true from h), run_yes l h, Nat.add_assoc, Nat.add_comm 1]
    · rw [stepN (by simp [nxt, h]), if_neg (show ¬ headIs dig (c :: l) = true from h)]

theorem numA5_nil (i e : Nat) (dec : Bool) : numA [] 5 i e dec = (e, dec) := rfl
theorem numA5 (d : UInt8) (r : List UInt8) (i e : Nat) (dec : Bool) : numA (d :: r) 5 i e dec =
    if d = 43 ∨ d = 45 then (if headIs dig r then (i + 1 + run dig r, true) else (e, dec)) else if dig d then (i + run dig (d :: r), true) else (e, dec) := by
  by_cases h : dig d = true
  · have hn := dig_not h
    rw [step7 (by simp [nxt, h]), numA7, if_neg (fun e => e.elim hn.2.2.2.1 hn.2.2.2.2), if_pos h, run_yes r h, Nat.add_assoc, Nat.add_comm 1]
  · by_cases hs : d = 43 ∨ d = 45
    · rw [step6 (by simp [nxt, h, hs]), numA6, if_pos hs]
    · rw [stepN (by simp [nxt, h, hs]), if_neg hs, if_neg h]

theorem kn_yes (n : Nat) : kn (3, n) = (n, true) := rfl
theorem kn_kd (kd n : Nat) : kn (kd, n) = (n, decide (kd = 3)) := rfl

theorem numA_expo (l : List UInt8) (i : Nat) (kd : Nat) (st : Nat)
    (hst : ∀ c, dig c = false → (nxt st c = if c = 101 ∨ c = 69 then some 5 else none) ∨ c = 46) (hd : headIs dig l = false) (h46 : ∀ r, l ≠ 46 :: r) :
    numA l st i i (decide (kd = 3)) = kn (expo kd l i) := by
  cases l with
  | nil => rfl
  | cons c r =>
    have hc : dig c = false := hd
    have h1 : nxt st c = if c = 101 ∨ c = 69 then some 5 else none := by
      rcases hst c hc with h | h
      · exact h
      · exact absurd (by rw [h]) (h46 r)
    by_cases he : c = 101 ∨ c = 69
    · rw [if_pos he] at h1
      rw [step5 h1]
      cases r with
      | nil => rw [numA5_nil, expo_one, kn_kd]
      | cons d r =>
        rw [numA5, expo_yes _ _ _ _ he]
        by_cases hs : d = 43 ∨ d = 45
        · rw [if_pos hs, if_pos hs]
          by_cases hh : headIs dig r = true
          · rw [if_pos hh, if_pos hh, kn_yes, show i + 1 + 1 + run dig r = i + 2 + run dig r from by omega]
          · rw [if_neg hh, if_neg hh, kn_kd]
        · rw [if_neg hs, if_neg hs]
          by_cases hh : dig d = true
          · rw [if_pos hh, if_pos hh, kn_yes]
          · rw [if_neg hh, if_neg hh, kn_kd]
    · rw [if_neg he] at h1
      rw [stepN h1, expo_no _ _ _ he, kn_kd]

theorem run_head (p : UInt8 → Bool) : ∀ l : List UInt8, headIs p (l.drop (run p l)) = false
  | [] => rfl
  | c :: l => by
    unfold run
    by_cases h : p c = true
    · rw [if_pos h, Nat.add_comm, List.drop_succ_cons]; exact run_head p l
    · rw [if_neg h]; simpa [headIs] using h

/-- Digits after the point. -/
theorem numA4 : ∀ (l : List UInt8) (i : Nat) (st : Nat), st = 3 ∨ st = 4 → numA l st i i true = kn (expo 3 (l.drop (run dig l)) (i + run dig l))
  | [], i, st, h => rfl
  | c :: l, i, st, h => by
    by_cases hd : dig c = true
    · have hn : nxt st c = some 4 := by rcases h with rfl | rfl <;> simp [nxt, hd]
      rw [step4 hn, numA4 l (i + 1) 4 (Or.inr rfl), run_yes l hd, List.drop_succ_cons, show i + 1 + run dig l = i + (run dig l + 1) from by omega]
    · rw [run_no l hd, List.drop_zero, Nat.add_zero]
      by_cases hp : c = 46
      · subst hp
        rw [stepN (by rcases h with rfl | rfl <;> decide), expo_no _ _ _ (by decide)]; rfl
      · refine numA_expo (c :: l) i 3 st (fun x hx => Or.inl ?_) (by simpa [headIs] using hd) (fun r e => hp (List.cons.inj e).1)
        rcases h with rfl | rfl <;> simp [nxt, hx]

/-- What stands behind the first digits. -/
def tailN (l : List UInt8) (n : Nat) : Nat × Nat :=
  match l with
  | [] => expo 2 [] n
  | c :: r => if c = 46 then expo 3 (r.drop (run dig r)) (n + 1 + run dig r) else expo 2 (c :: r) n

/-- Digits ahead of the point. -/
theorem numA1 : ∀ (l : List UInt8) (i : Nat), numA l 1 i i false = kn (tailN (l.drop (run dig l)) (i + run dig l))
  | [], i => rfl
  | c :: l, i => by
    by_cases hd : dig c = true
    · rw [step1 (by simp [nxt, hd]), numA1 l (i + 1), run_yes l hd, List.drop_succ_cons, show i + 1 + run dig l = i + (run dig l + 1) from by omega]
    · rw [run_no l hd, List.drop_zero, Nat.add_zero, tailN]
      by_cases hp : c = 46
      · subst hp
        rw [if_pos rfl, step3 (by decide)]
        exact numA4 l (i + 1) 3 (Or.inl rfl)
      · rw [if_neg hp]
        refine numA_expo (c :: l) i 2 1 (fun x hx => ?_) (by simpa [headIs] using hd) (fun r e => hp (List.cons.inj e).1)
        by_cases h46 : x = 46
        · exact Or.inr h46
        · left; simp [nxt, hx, h46]

theorem scanN_eq (l : List UInt8) : scanN l = tailN (l.drop (run dig l)) (run dig l) := rfl

/-- THE LAW OF NUMBERS: where a number begins, scanNumber and the automaton read the same. -/
theorem num_same (l : List UInt8) (h : headIs dig l = true ∨ ∃ r, l = 46 :: r ∧ headIs dig r = true) : numA l 0 0 0 false = kn (scanN l) := by
  rcases h with h | ⟨r, rfl, hr⟩
  · cases l with
    | nil => cases h
    | cons c l =>
      have hd : dig c = true := h
      rw [step1 (by simp [nxt, hd]), numA1, scanN_eq, run_yes l hd, List.drop_succ_cons, show 0 + 1 + run dig l = run dig l + 1 from by omega]
  · cases r with
    | nil => cases hr
    | cons c r =>
      have hd : dig c = true := hr
      rw [step2 (by decide), step4 (by simp [nxt, hd]), numA4 r _ 4 (Or.inr rfl), scanN_eq, run_no _ (show ¬ dig 46 = true from by decide), List.drop_zero, tailN]
      rw [if_pos rfl, run_yes r hd, List.drop_succ_cons, show 0 + 1 + 1 + run dig r = 0 + 1 + (run dig r + 1) from by omega]

theorem numA_shift (k : Nat) : ∀ (l : List UInt8) (st i e : Nat) (dec : Bool), numA l st (i + k) (e + k) dec = ((numA l st i e dec).1 + k, (numA l st i e dec).2)
  | [], st, i, e, dec => rfl
  | c :: l, st, i, e, dec => by
    rw [numA, numA]
    cases nxt st c with
    | none => rfl
    | some s =>
      simp only
      have e1 : i + k + 1 = i + 1 + k := by omega
      rw [e1, numA_shift k l, numA_shift k l, numA_shift k l]
      split
      · rfl
      · split <;> rfl

theorem numA_le : ∀ (l : List UInt8) (st i e : Nat) (dec : Bool), e ≤ i → (numA l st i e dec).1 ≤ i + l.length
  | [], st, i, e, dec, h => by simp only [numA, List.length_nil]; omega
  | c :: l, st, i, e, dec, h => by
    rw [numA]
    cases nxt st c with
    | none => simp only [List.length_cons]; omega
    | some s =>
      have h1 := numA_le l s (i + 1) (i + 1) false (by omega)
      have h2 := numA_le l s (i + 1) (i + 1) true (by omega)
      have h3 := numA_le l s (i + 1) e dec (by omega)
      simp only [List.length_cons]
      split
      · omega
      · split <;> omega

/-! strings: as scanString reads them, and by the runs' parity -/
def strC : List UInt8 → Nat → Bool × Nat
  | [], n => (false, n)
  | [c], n => if c = 39 then (true, n + 1) else (false, n + 1)
  | c :: d :: r, n => if c = 39 then (if d = 39 then strC r (n + 2) else (true, n + 1)) else strC (d :: r) (n + 1)

def strP : List UInt8 → Bool → Nat → Bool × Nat
  | [], par, n => (par, n)
  | c :: l, par, n => if c = 39 then strP l (!par) (n + 1) else if par then (true, n) else strP l false (n + 1)

theorem str_same : ∀ (l : List UInt8) (n : Nat), strP l false n = strC l n
  | [], n => rfl
  | [c], n => by
    by_cases h : c = 39 <;> simp [strP, strC, h]
  | c :: d :: r, n => by
    have i1 := str_same (d :: r) (n + 1)
    have i2 := str_same r (n + 2)
    by_cases h : c = 39
    · by_cases h2 : d = 39
      · simp [strP, strC, h, h2, i2]
      · simp [strP, strC, h, h2]
    · rw [strP, if_neg h, if_neg (by decide), i1, strC, if_neg h]

theorem strP_shift (k : Nat) : ∀ (l : List UInt8) (par : Bool) (n : Nat), strP l par (n + k) = ((strP l par n).1, (strP l par n).2 + k)
  | [], par, n => rfl
  | c :: l, par, n => by
    have e1 : n + k + 1 = n + 1 + k := by omega
    rw [strP, strP, e1, strP_shift k l, strP_shift k l]
    split
    · rfl
    · split <;> rfl

theorem strP_le : ∀ (l : List UInt8) (par : Bool) (n : Nat), (strP l par n).2 ≤ n + l.length
  | [], par, n => by simp only [strP, List.length_nil]; omega
  | c :: l, par, n => by
    have h1 := strP_le l (!par) (n + 1)
    have h2 := strP_le l false (n + 1)
    rw [strP]
    simp only [List.length_cons]
    split
    · omega
    · split
      · simp only; omega
      · omega

/-! operators -/
def one (c : UInt8) : Bool := c == 40 || c == 41 || c == 44 || c == 46 || c == 59 || c == 58 || c == 42 || c == 43 || c == 45 || c == 47 || c == 61 || c == 60 || c == 62
def two (a b : UInt8) : Bool := (a == 58 && b == 58) || (a == 124 && b == 124) || (a == 60 && b == 61) || (a == 62 && b == 61) || (a == 60 && b == 62)
def punct : List UInt8 → Nat
  | [] => 0
  | [c] => if one c then 1 else 0
  | a :: b :: _ => if two a b then 2 else if one a then 1 else 0

/-- THE TOKEN at the head: its kind and its length. -/
def tokOf : List UInt8 → Nat × Nat
  | [] => (0, 0)
  | c :: r =>
    if alpha c then (1, 1 + run alnum r)
    else if dig c || (c == 46 && headIs dig r) then scanN (c :: r)
    else if c = 39 then (if (strC r 1).1 then 4 else 7, (strC r 1).2)
    else if c == 36 && headIs dig r then (5, 1 + run dig r)
    else if c == 47 && headIs (· == 42) r then (7, r.length + 1)
    else if 0 < punct (c :: r) then (6, punct (c :: r)) else (7, 1)

theorem expo_le (kd : Nat) (l : List UInt8) (n : Nat) : (expo kd l n).2 ≤ n + l.length := by
  cases l with
  | nil => rw [expo_nil]; simp
  | cons c r =>
    cases r with
    | nil => rw [expo_one]; simp
    | cons d r =>
      by_cases he : c = 101 ∨ c = 69
      · have h1 := run_le dig r
        have h2 := run_le dig (d :: r)
        rw [expo_yes _ _ _ _ he]
        simp only [List.length_cons] at h2 ⊢
        split
        · split <;> (simp only; omega)
        · split <;> (simp only; omega)
      · rw [expo_no _ _ _ he]; simp only [List.length_cons]; omega

theorem scanN_le (l : List UInt8) : (scanN l).2 ≤ l.length := by
  have h0 := run_le dig l
  rw [scanN_eq]
  unfold tailN
  have hl : (l.drop (run dig l)).length = l.length - run dig l := List.length_drop
  cases h : l.drop (run dig l) with
  | nil => have := expo_le 2 [] (run dig l); simp only [List.length_nil] at this; simp only; omega
  | cons c r =>
    rw [h] at hl
    simp only [List.length_cons] at hl
    have h1 := run_le dig r
    have h2 := expo_le 3 (r.drop (run dig r)) (run dig l + 1 + run dig r)
    have h3 := expo_le 2 (c :: r) (run dig l)
    rw [List.length_drop] at h2
    simp only [List.length_cons] at h3
    simp only
    split <;> omega

theorem punct_le (l : List UInt8) : punct l ≤ l.length := by
  match l with
  | [] => exact Nat.le_refl _
  | [c] => simp only [punct, List.length_cons, List.length_nil]; split <;> omega
  | a :: b :: r => simp only [punct, List.length_cons]; split <;> (try split) <;> omega

theorem tokOf_le (l : List UInt8) : (tokOf l).2 ≤ l.length := by
  cases l with
  | nil => exact Nat.le_refl _
  | cons c r =>
    have h1 := run_le alnum r
    have h2 := run_le dig r
    have h3 := scanN_le (c :: r)
    have h4 := strP_le r false 1
    rw [str_same] at h4
    have h5 := punct_le (c :: r)
    simp only [List.length_cons] at h3 h5
    rw [tokOf]
    simp only [List.length_cons]
    split
    · simp only; omega
    split
    · omega
    split
    · simp only; omega
    split
    · simp only; omega
    split
    · simp only; omega
    split <;> (simp only; omega)
end Go.Proofs.Qxb6601015a.SK
