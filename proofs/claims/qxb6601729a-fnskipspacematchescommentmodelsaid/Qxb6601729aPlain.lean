/-
  THE PLAIN MACHINE of skipSpace: one pass with an in-comment flag; its laws. No Go.
-/
import Derived.Lib.Strings
import Derived.Lib.Bytealg
namespace Go.Proofs.Qxb6601729a.SK
open Go

def blank (c : UInt8) : Prop := c = 32 ∨ c = 9 ∨ c = 13 ∨ c = 10
/-- A byte at which skipSpace stops. -/
def tok (c : UInt8) : Prop := c ≠ 32 ∧ c ≠ 9 ∧ c ≠ 13 ∧ c ≠ 10 ∧ c ≠ 35

def mach : List UInt8 → Bool → Nat → Nat
  | [], _, i => i
  | c :: l, cm, i =>
    if c = 10 then mach l false (i + 1)
    else if cm = true then mach l true (i + 1)
    else if c = 35 then mach l true (i + 1)
    else if c = 32 ∨ c = 9 ∨ c = 13 then mach l false (i + 1)
    else i

theorem mach_tok : ∀ (l : List UInt8) (cm : Bool) (i : Nat), ∃ j, mach l cm i = i + j ∧ j ≤ l.length ∧ ∀ h : j < l.length, tok l[j]
  | [], _, i => ⟨0, rfl, Nat.le_refl _, fun h => by cases h⟩
  | c :: l, cm, i => by
    have step : ∀ cm', ∃ j, mach l cm' (i + 1) = i + j ∧ j ≤ (c :: l).length ∧ ∀ h : j < (c :: l).length, tok (c :: l)[j] := fun cm' => by
      obtain ⟨j, h1, h2, h3⟩ := mach_tok l cm' (i + 1)
      exact ⟨j + 1, by rw [h1]; omega, by simpa using h2, fun h => by simpa using h3 (by simpa using h)⟩
    unfold mach
    split
    · exact step _
    · split
      · exact step _
      · split
        · exact step _
        · split
          · exact step _
          · rename_i a b d e
            refine ⟨0, rfl, Nat.zero_le _, fun _ => ?_⟩
            simp only [not_or] at e
            exact ⟨e.1, e.2.1, e.2.2, a, d⟩

theorem way_blank {c : UInt8} {l : List UInt8} (i : Nat) (h : blank c) : mach (c :: l) false i = mach l false (i + 1) := by
  rcases h with rfl | rfl | rfl | rfl <;> simp [mach]

theorem way_stop {c : UInt8} {l : List UInt8} (i : Nat) (h : tok c) : mach (c :: l) false i = i := by
  obtain ⟨h1, h2, h3, h4, h5⟩ := h
  simp [mach, h1, h2, h3, h4, h5]

/-- Inside a comment, no line break left. -/
theorem in_none : ∀ (l : List UInt8) (i : Nat), Lib.indexByte l 10 < 0 → mach l true i = i + l.length
  | [], i, _ => rfl
  | c :: l, i, h => by
    by_cases hc : c = 10
    · subst hc; rw [Lib.indexByte] at h; simp at h
    · have h' : Lib.indexByte l 10 < 0 := by
        rw [Lib.indexByte] at h
        split at h
        · simp_all
        · split at h
          · rename_i e; rw [beq_iff_eq] at e; omega
          · omega
      rw [mach, if_neg hc, if_pos rfl, in_none l (i + 1) h']
      simp only [List.length_cons]; omega

/-- Inside a comment, the line break at e. -/
theorem in_some : ∀ (l : List UInt8) (i e : Nat), Lib.indexByte l 10 = (e : Int) → e < l.length ∧ mach l true i = mach (l.drop e) false (i + e)
  | [], i, e, h => by rw [Lib.indexByte] at h; omega
  | c :: l, i, e, h => by
    by_cases hc : c = 10
    · subst hc
      have : e = 0 := by rw [Lib.indexByte] at h; simp at h; omega
      subst this
      refine ⟨by simp, ?_⟩
      simp [mach]
    · have h' : Lib.indexByte l 10 = ((e - 1 : Nat) : Int) ∧ 0 < e := by
        rw [Lib.indexByte] at h
        split at h
        · simp_all
        · split at h
          · omega
          · rename_i e1
            rw [beq_iff_eq] at e1
            have := Lib.indexByte_ge l 10
            omega
      obtain ⟨k1, k2⟩ := in_some l (i + 1) (e - 1) h'.1
      obtain ⟨e, rfl⟩ : ∃ e', e = e' + 1 := ⟨e - 1, by omega⟩
      refine ⟨by simpa using k1, ?_⟩
      rw [mach, if_neg hc, if_pos rfl, k2]
      simp only [Nat.add_sub_cancel, List.drop_succ_cons]
      congr 1; omega

theorem way_none {l : List UInt8} (i : Nat) (h : Lib.indexByte (35 :: l) 10 < 0) : mach (35 :: l) false i = i + (l.length + 1) := by
  have := in_none (35 :: l) i h
  rw [mach, if_neg (by decide), if_pos rfl] at this
  rw [mach, if_neg (by decide), if_neg (by decide), if_pos rfl, this]; rfl

theorem way_some {l : List UInt8} (i e : Nat) (h : Lib.indexByte (35 :: l) 10 = (e : Int)) : e < l.length + 1 ∧ mach (35 :: l) false i = mach ((35 :: l).drop e) false (i + e) := by
  have := in_some (35 :: l) i e h
  rw [mach, if_neg (by decide), if_pos rfl] at this
  refine ⟨this.1, ?_⟩
  rw [mach, if_neg (by decide), if_neg (by decide), if_pos rfl, this.2]

theorem way_some_pos {l : List UInt8} (e : Nat) (h : Lib.indexByte (35 :: l) 10 = (e : Int)) : 0 < e := by
  rcases Nat.eq_zero_or_pos e with rfl | h0
  · rw [Lib.indexByte] at h
    split at h
    · rename_i c; revert c; decide
    · split at h
      · omega
      · rename_i e1
        rw [beq_iff_eq] at e1
        have := Lib.indexByte_ge l 10
        omega
  · exact h0
end Go.Proofs.Qxb6601729a.SK
