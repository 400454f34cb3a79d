/-
  THE PLAIN LAWS behind skipSpace: lists of bytes, no Go.
-/
import Derived.Lib.IndexBytes
namespace Go.Proofs.Qxb6601015a.SK
open Go

/-- The six bytes that are blank. -/
def blank (c : UInt8) : Bool := c == 32 || c == 9 || c == 10 || c == 13 || c == 12 || c == 11

/-- The one-pass machine: what is left of the text; the state (0 plain, 1 line comment, 2 bracketed comment); its depth; where the outermost comment began; the place. -/
def mach : List UInt8 → Nat → Int → Nat → Nat → Nat
  | [], 0, _, _, i => i
  | [], 1, _, _, i => i
  | [], _ + 2, _, bs, _ => bs
  | [a], 0, _, _, i => if blank a then i + 1 else i
  | [_], 1, _, _, i => i + 1
  | [_], _ + 2, _, bs, _ => bs
  | a :: b :: l, 0, d, bs, i =>
    if blank a then mach (b :: l) 0 d bs (i + 1)
    else if a = 45 ∧ b = 45 then mach l 1 d bs (i + 2)
    else if a = 47 ∧ b = 42 then mach l 2 1 i (i + 2)
    else i
  | a :: b :: l, 1, d, bs, i => if a = 10 then mach (b :: l) 0 d bs (i + 1) else mach (b :: l) 1 d bs (i + 1)
  | a :: b :: l, _ + 2, d, bs, i =>
    if a = 47 ∧ b = 42 then mach l 2 (d + 1) bs (i + 2)
    else if a = 42 ∧ b = 47 then (if d - 1 = 0 then mach l 0 (d - 1) bs (i + 2) else mach l 2 (d - 1) bs (i + 2))
    else mach (b :: l) 2 d bs (i + 1)

/-- The end of a bracketed comment, counted from here; 'd': the depth here. -/
def cend : List UInt8 → Int → Option Nat
  | [], _ => none
  | [_], _ => none
  | a :: b :: l, d =>
    if a = 47 ∧ b = 42 then (cend l (d + 1)).map (· + 2)
    else if a = 42 ∧ b = 47 then (if d - 1 = 0 then some 2 else (cend l (d - 1)).map (· + 2))
    else (cend (b :: l) d).map (· + 1)

/-- In the plain state neither the depth nor the comment's start tells. -/
theorem mach0_any : ∀ (l : List UInt8) (d d' : Int) (bs bs' i : Nat), (mach l 0 d bs i = mach l 0 d' bs' i) ∧ (mach l 1 d bs i = mach l 1 d' bs' i)
  | [], d, d', bs, bs', i => by simp [mach]
  | [a], d, d', bs, bs', i => by simp [mach]
  | a :: b :: l, d, d', bs, bs', i => by
    have ih1 := mach0_any (b :: l) d d' bs bs' (i + 1)
    have ih2 := mach0_any l d d' bs bs' (i + 2)
    refine ⟨?_, ?_⟩
    · rw [mach, mach, ih1.1, ih2.2]
    · rw [mach, mach, ih1.1, ih1.2]

theorem mach_shift (c : Nat) : ∀ (l : List UInt8) (st : Nat) (d : Int) (bs i : Nat), mach l st d (bs + c) (i + c) = mach l st d bs i + c
  | [], 0, d, bs, i => by simp [mach]
  | [], 1, d, bs, i => by simp [mach]
  | [], _ + 2, d, bs, i => by simp [mach]
  | [a], 0, d, bs, i => by simp only [mach]; split <;> omega
  | [a], 1, d, bs, i => by simp only [mach]; omega
  | [a], _ + 2, d, bs, i => by simp [mach]
  | a :: b :: l, 0, d, bs, i => by
    have e1 : i + c + 1 = i + 1 + c := by omega
    have e2 : i + c + 2 = i + 2 + c := by omega
    rw [mach, mach, e1, e2, mach_shift c (b :: l), mach_shift c l, mach_shift c l]
    split
    · rfl
    · split
      · rfl
      · split <;> rfl
  | a :: b :: l, 1, d, bs, i => by
    have e1 : i + c + 1 = i + 1 + c := by omega
    rw [mach, mach, e1, mach_shift c (b :: l), mach_shift c (b :: l)]
    split <;> rfl
  | a :: b :: l, _ + 2, d, bs, i => by
    have e1 : i + c + 1 = i + 1 + c := by omega
    have e2 : i + c + 2 = i + 2 + c := by omega
    rw [mach, mach, e1, e2, mach_shift c (b :: l), mach_shift c l, mach_shift c l, mach_shift c l]
    split
    · rfl
    · split
      · split <;> rfl
      · rfl

/-- The machine stays within the text. -/
theorem mach_bounds : ∀ (l : List UInt8) (st : Nat) (d : Int) (bs i lo : Nat), lo ≤ i → lo ≤ bs → bs ≤ i → lo ≤ mach l st d bs i ∧ mach l st d bs i ≤ i + l.length
  | [], 0, d, bs, i, lo, h1, h2, h3 => by simp only [mach, List.length_nil]; omega
  | [], 1, d, bs, i, lo, h1, h2, h3 => by simp only [mach, List.length_nil]; omega
  | [], _ + 2, d, bs, i, lo, h1, h2, h3 => by simp only [mach, List.length_nil]; omega
  | [a], 0, d, bs, i, lo, h1, h2, h3 => by simp only [mach, List.length_cons, List.length_nil]; split <;> omega
  | [a], 1, d, bs, i, lo, h1, h2, h3 => by simp only [mach, List.length_cons, List.length_nil]; omega
  | [a], _ + 2, d, bs, i, lo, h1, h2, h3 => by simp only [mach, List.length_cons, List.length_nil]; omega
  | a :: b :: l, 0, d, bs, i, lo, h1, h2, h3 => by
    have i1 := mach_bounds (b :: l) 0 d bs (i + 1) lo (by omega) h2 (by omega)
    have i2 := mach_bounds l 1 d bs (i + 2) lo (by omega) h2 (by omega)
    have i3 := mach_bounds l 2 1 i (i + 2) lo (by omega) h1 (by omega)
    rw [mach]
    simp only [List.length_cons] at i1 i2 i3 ⊢
    split
    · omega
    · split
      · omega
      · split <;> omega
  | a :: b :: l, 1, d, bs, i, lo, h1, h2, h3 => by
    have i1 := mach_bounds (b :: l) 0 d bs (i + 1) lo (by omega) h2 (by omega)
    have i2 := mach_bounds (b :: l) 1 d bs (i + 1) lo (by omega) h2 (by omega)
    rw [mach]
    simp only [List.length_cons] at i1 i2 ⊢
    split <;> omega
  | a :: b :: l, _ + 2, d, bs, i, lo, h1, h2, h3 => by
    have i1 := mach_bounds (b :: l) 2 d bs (i + 1) lo (by omega) h2 (by omega)
    have i2 := mach_bounds l 2 (d + 1) bs (i + 2) lo (by omega) h2 (by omega)
    have i3 := mach_bounds l 2 (d - 1) bs (i + 2) lo (by omega) h2 (by omega)
    have i4 := mach_bounds l 0 (d - 1) bs (i + 2) lo (by omega) h2 (by omega)
    rw [mach]
    simp only [List.length_cons] at i1 i2 i3 i4 ⊢
    split
    · omega
    · split
      · split <;> omega
      · omega

/-- A bracketed comment: to its end, or back to its start. -/
theorem mach2 (bs : Nat) : ∀ (l : List UInt8) (d : Int) (i : Nat), mach l 2 d bs i = match cend l d with | none => bs | some e => mach (l.drop e) 0 0 bs (i + e)
  | [], d, i => by simp [mach, cend]
  | [a], d, i => by simp [mach, cend]
  | a :: b :: l, d, i => by
    have i1 := mach2 bs (b :: l) d (i + 1)
    have i2 := mach2 bs l (d + 1) (i + 2)
    have i3 := mach2 bs l (d - 1) (i + 2)
    rw [mach, cend]
    by_cases h1 : a = 47 ∧ b = 42
    · rw [if_pos h1, if_pos h1, i2]
      cases cend l (d + 1) with
      | none => rfl
      | some e => simp only [Option.map_some]; rw [show i + 2 + e = i + (e + 2) from by omega]; rfl
    · rw [if_neg h1, if_neg h1]
      by_cases h2 : a = 42 ∧ b = 47
      · rw [if_pos h2, if_pos h2]
        by_cases h3 : d - 1 = 0
        · rw [if_pos h3, if_pos h3, h3]; rfl
        · rw [if_neg h3, if_neg h3, i3]
          cases cend l (d - 1) with
          | none => rfl
          | some e => simp only [Option.map_some]; rw [show i + 2 + e = i + (e + 2) from by omega]; rfl
      · rw [if_neg h2, if_neg h2, i1]
        cases cend (b :: l) d with
        | none => rfl
        | some e => simp only [Option.map_some]; rw [show i + 1 + e = i + (e + 1) from by omega]; rfl

theorem cend_room : ∀ (l : List UInt8) (d : Int) (e : Nat), cend l d = some e → e ≤ l.length ∧ 2 ≤ e
  | [], d, e, h => by simp [cend] at h
  | [a], d, e, h => by simp [cend] at h
  | a :: b :: l, d, e, h => by
    rw [cend] at h
    simp only [List.length_cons]
    by_cases h1 : a = 47 ∧ b = 42
    · rw [if_pos h1, Option.map_eq_some_iff] at h
      obtain ⟨x, hx, rfl⟩ := h
      have := cend_room l _ x hx; omega
    · rw [if_neg h1] at h
      by_cases h2 : a = 42 ∧ b = 47
      · rw [if_pos h2] at h
        by_cases h3 : d - 1 = 0
        · rw [if_pos h3] at h
          have := Option.some.inj h; omega
        · rw [if_neg h3, Option.map_eq_some_iff] at h
          obtain ⟨x, hx, rfl⟩ := h
          have := cend_room l _ x hx; omega
      · rw [if_neg h2, Option.map_eq_some_iff] at h
        obtain ⟨x, hx, rfl⟩ := h
        have := cend_room (b :: l) _ x hx
        simp only [List.length_cons] at this; omega

theorem indexByte_cons_ne {a c : UInt8} (l : List UInt8) (h : ¬ a = c) : Lib.indexByte (a :: l) c = if Lib.indexByte l c = -1 then -1 else Lib.indexByte l c + 1 := by
  rw [Lib.indexByte, if_neg (by simpa using h)]
  by_cases hm : Lib.indexByte l c = -1
  · rw [if_pos (by simpa using hm), if_pos hm]
  · rw [if_neg (by simpa using hm), if_neg hm]

/-- A line comment: to the line's break, or to the text's end. -/
theorem mach1 (d : Int) (bs : Nat) : ∀ (l : List UInt8) (i : Nat), mach l 1 d bs i = if Lib.indexByte l 10 < 0 then i + l.length else mach (l.drop (Lib.indexByte l 10).toNat) 0 d bs (i + (Lib.indexByte l 10).toNat)
  | [], i => by simp [mach, Lib.indexByte]
  | [a], i => by
    by_cases h : a = 10
    · subst h; simp [mach, Lib.indexByte, blank]
    · simp [mach, Lib.indexByte, h]
  | a :: b :: l, i => by
    have ih := mach1 d bs (b :: l) (i + 1)
    rw [mach]
    by_cases h : a = 10
    · subst h
      rw [if_pos rfl, show Lib.indexByte (10 :: b :: l) 10 = 0 from by simp [Lib.indexByte], if_neg (by omega)]
      simp [mach, blank]
    · rw [if_neg h, ih, indexByte_cons_ne (b :: l) h]
      have hge := Lib.indexByte_ge (b :: l) 10
      by_cases hm : Lib.indexByte (b :: l) 10 = -1
      · rw [if_pos (by omega), if_pos hm, if_pos (by omega)]
        simp only [List.length_cons]; omega
      · rw [if_neg (by omega), if_neg hm, if_neg (by omega)]
        rw [show (Lib.indexByte (b :: l) 10 + 1).toNat = (Lib.indexByte (b :: l) 10).toNat + 1 from by omega, List.drop_succ_cons]
        rw [show i + 1 + (Lib.indexByte (b :: l) 10).toNat = i + ((Lib.indexByte (b :: l) 10).toNat + 1) from by omega]

/-! The ways of skipSpace's round, at 'l' the text from the place on. -/
theorem way_blank {a : UInt8} {l : List UInt8} (i : Nat) (h : blank a = true) : mach (a :: l) 0 0 0 i = mach l 0 0 0 (i + 1) := by
  cases l with
  | nil => simp [mach, h]
  | cons b l => rw [mach, if_pos h]

theorem way_line_end {l : List UInt8} (i : Nat) (h : Lib.indexByte (45 :: 45 :: l) 10 < 0) : mach (45 :: 45 :: l) 0 0 0 i = i + (l.length + 2) := by
  rw [mach, if_neg (by decide), if_pos ⟨rfl, rfl⟩, mach1]
  rw [indexByte_cons_ne _ (by decide), indexByte_cons_ne _ (by decide)] at h
  have hge := Lib.indexByte_ge l 10
  by_cases hm : Lib.indexByte l 10 = -1
  · rw [if_pos (by omega)]; omega
  · rw [if_neg hm, if_neg (by omega)] at h; omega

theorem way_line {l : List UInt8} (i e : Nat) (h : Lib.indexByte (45 :: 45 :: l) 10 = e) : mach (45 :: 45 :: l) 0 0 0 i = mach ((45 :: 45 :: l).drop e) 0 0 0 (i + e) ∧ 2 ≤ e ∧ e ≤ l.length + 2 := by
  rw [mach, if_neg (by decide), if_pos ⟨rfl, rfl⟩, mach1]
  rw [indexByte_cons_ne _ (by decide), indexByte_cons_ne _ (by decide)] at h
  have hge := Lib.indexByte_ge l 10
  have hle : Lib.indexByte l 10 ≤ l.length := by
    have := Lib.index_le l [10]
    rw [Lib.index_one] at this; exact this
  by_cases hm : Lib.indexByte l 10 = -1
  · rw [if_pos hm] at h
    rw [if_pos rfl] at h
    omega
  · rw [if_neg hm, if_neg (by omega)] at h
    rw [if_neg (by omega)]
    refine ⟨?_, by omega, by omega⟩
    obtain ⟨x, hx⟩ : ∃ x : Nat, Lib.indexByte l 10 = x := ⟨(Lib.indexByte l 10).toNat, by omega⟩
    rw [hx] at h ⊢
    obtain rfl : e = x + 2 := by omega
    rw [Int.toNat_natCast, show i + 2 + x = i + (x + 2) from by omega]
    rfl

theorem way_open {l : List UInt8} (i : Nat) (h : cend (47 :: 42 :: l) 0 = none) : mach (47 :: 42 :: l) 0 0 0 i = i := by
  rw [cend, if_pos ⟨rfl, rfl⟩, Option.map_eq_none_iff] at h
  rw [mach, if_neg (by decide), if_neg (by decide), if_pos ⟨rfl, rfl⟩, mach2]
  rw [show (1 : Int) = 0 + 1 from rfl, h]

theorem way_block {l : List UInt8} (i e : Nat) (h : cend (47 :: 42 :: l) 0 = some e) : mach (47 :: 42 :: l) 0 0 0 i = mach ((47 :: 42 :: l).drop e) 0 0 0 (i + e) := by
  rw [cend, if_pos ⟨rfl, rfl⟩, Option.map_eq_some_iff] at h
  obtain ⟨x, hx, rfl⟩ := h
  rw [mach, if_neg (by decide), if_neg (by decide), if_pos ⟨rfl, rfl⟩, mach2]
  rw [show (1 : Int) = 0 + 1 from rfl, hx]
  show mach (l.drop x) 0 0 i (i + 2 + x) = _
  rw [(mach0_any (l.drop x) 0 0 i 0 (i + 2 + x)).1, show i + 2 + x = i + (x + 2) from by omega]
  rfl

theorem way_stop {a b : UInt8} {l : List UInt8} (i : Nat) (h : blank a = false) (h1 : ¬ (a = 45 ∧ b = 45)) (h2 : ¬ (a = 47 ∧ b = 42)) : mach (a :: b :: l) 0 0 0 i = i := by
  rw [mach, if_neg (by simp [h]), if_neg h1, if_neg h2]

theorem way_last {a : UInt8} (i : Nat) (h : blank a = false) : mach [a] 0 0 0 i = i := by
  rw [mach, if_neg (by simp [h])]
end Go.Proofs.Qxb6601015a.SK
