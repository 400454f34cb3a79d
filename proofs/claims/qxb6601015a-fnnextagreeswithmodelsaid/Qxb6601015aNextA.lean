/-
  THE WALK of (*Lexer).Next (28): a theorem a case: the common words, the end of the text, a comment left open.
-/
import Derived.Test.Qxb6601015aCases
import Derived.Test.Qxb6601015aNum
import Derived.BigRegion
import Derived.RegionTactic
import Derived.Outline
namespace Go.Proofs.Qxb6601015a.SK
open Go Go.RowKit

/-- What Next hands back: the token T at q; the lexer stands behind it; what lies below the lexer has not turned. -/
def NextPost (w : World) (b : Nat) (s : ByteArray) (q : Nat) (T : Nat × Nat) : Ending → World → Prop :=
  fun e w' => ∃ X : ByteArray, e = .returned (.agg #[.int .i64 (T.1 : Nat), .string X, .int .i64 (q : Nat)]) ∧ X.data.toList = (s.data.toList.drop q).take T.2 ∧ w'.cell? ⟨b, 1, none⟩ = some (.int .i64 (q + T.2 : Nat)) ∧ Below b w w' ∧ b < w'.heap.size

/-- The new block in which the token is laid. -/
def tok0 : Obj := .cells #[.int .i64 0, .string ⟨#[]⟩, .int .i64 0] 25

/-- Behind skipSpace: the lexer, and the token's block. -/
structure At (w w1 : World) (b : Nat) (s : ByteArray) (q : Nat) : Prop where
  g0 : w1.cell? ⟨b, 0, none⟩ = some (.string s)
  g1 : w1.cell? ⟨b, 1, none⟩ = some (.int .i64 q)
  gf : w1.frozen? ⟨b, 1, none⟩ = false
  only : Only b (w.alloc tok0) w1
  r0 : w1.cell? ⟨w.heap.size, 0, none⟩ = some (.int .i64 0)
  r1 : w1.cell? ⟨w.heap.size, 1, none⟩ = some (.string ⟨#[]⟩)
  r2 : w1.cell? ⟨w.heap.size, 2, none⟩ = some (.int .i64 0)
  f0 : w1.frozen? ⟨w.heap.size, 0, none⟩ = false
  f1 : w1.frozen? ⟨w.heap.size, 1, none⟩ = false
  f2 : w1.frozen? ⟨w.heap.size, 2, none⟩ = false

theorem skip_at (s : ByteArray) (p b q : Nat) (w : World) (hs : s.size ≤ 1048576) (hp : p ≤ s.size) (hb : b < w.heap.size)
    (h0 : w.cell? ⟨b, 0, none⟩ = some (.string s)) (h1 : w.cell? ⟨b, 1, none⟩ = some (.int .i64 p)) (hf : w.frozen? ⟨b, 1, none⟩ = false) (HQ : Hid (mach (s.data.toList.drop p) 0 0 0 p = q)) :
    Calls Try.prog 32 #[.pointer (some ⟨b, 0, none⟩)] (w.alloc tok0) fun e w' => e = .returned (.tuple #[]) ∧ At w w' b s q := by
  have hB : Below w.heap.size w (w.alloc tok0) := (Below.refl _ _).alloc (Nat.le_refl _) _
  refine (skipSpace_any s p b _ hs hp ((hB.cell hb).trans h0) ((hB.cell hb).trans h1) ((hB.frozen hb).trans hf)).mono ?_
  rintro e w' ⟨rfl, ho, c0, c1, cf⟩
  rw [HQ.out] at c1
  have hne : w.heap.size ≠ b := by omega
  refine ⟨rfl, c0, c1, cf, ho, ?_, ?_, ?_, ?_, ?_, ?_⟩
  · rw [ho.cell (by exact hne)]; simp [tok0]
  · rw [ho.cell (by exact hne)]; simp [tok0]
  · rw [ho.cell (by exact hne)]; simp [tok0]
  · rw [ho.frozen (by exact hne)]; simp [tok0]
  · rw [ho.frozen (by exact hne)]; simp [tok0]
  · rw [ho.frozen (by exact hne)]; simp [tok0]

theorem At.lex {w w1 : World} {b k : Nat} {s : ByteArray} (h : At w w1 b s k) : LexIs w1 w1 b s k := ⟨h.g0, h.g1, h.gf, Only.refl _ _⟩

theorem At.next {w w1 w2 : World} {b k k' : Nat} {s : ByteArray} {v : Int} (hb : b < w.heap.size) (h : At w w1 b s k) (hl : LexIs w1 w2 b s v) (hv : v = k') : At w w2 b s k' := by
  obtain ⟨c0, c1, cf, ho⟩ := hl
  have hne : w.heap.size ≠ b := by omega
  refine ⟨c0, hv ▸ c1, cf, h.only.trans ho, ?_, ?_, ?_, ?_, ?_, ?_⟩
  · rw [ho.cell (by exact hne)]; exact h.r0
  · rw [ho.cell (by exact hne)]; exact h.r1
  · rw [ho.cell (by exact hne)]; exact h.r2
  · rw [ho.frozen (by exact hne)]; exact h.f0
  · rw [ho.frozen (by exact hne)]; exact h.f1
  · rw [ho.frozen (by exact hne)]; exact h.f2

theorem isLetter_val {c : UInt8} {v : Bool} (h : alpha c = v) (w : World) : Calls Try.prog 35 #[.int .u8 (c.toNat : Int)] w fun e w' => e = .returned (.bool v) ∧ w' = w := h ▸ isLetter_any c w
theorem isDigit_val {c : UInt8} {v : Bool} (h : dig c = v) (w : World) : Calls Try.prog 36 #[.int .u8 (c.toNat : Int)] w fun e w' => e = .returned (.bool v) ∧ w' = w := h ▸ isDigit_any c w

/-- The end of Next: the token stored, one draw. -/
theorem next_post {w W : World} {b q k len : Nat} {s X : ByteArray} {T : Nat × Nat} {v0 v1 v2 : Value} (hb : b < w.heap.size) (h : At w W b s k) (hT : T.2 = len) (hk : k = q + len) (hX : X.data.toList = (s.data.toList.drop q).take len) :
    X.data.toList = (s.data.toList.drop q).take T.2 ∧ (((W.setCell ⟨w.heap.size, 0, none⟩ v0).setCell ⟨w.heap.size, 1, none⟩ v1).setCell ⟨w.heap.size, 2, none⟩ v2).drew.cell? ⟨b, 1, none⟩ = some (.int .i64 (q + T.2 : Nat)) ∧
    Below b w (((W.setCell ⟨w.heap.size, 0, none⟩ v0).setCell ⟨w.heap.size, 1, none⟩ v1).setCell ⟨w.heap.size, 2, none⟩ v2).drew ∧ b < (((W.setCell ⟨w.heap.size, 0, none⟩ v0).setCell ⟨w.heap.size, 1, none⟩ v1).setCell ⟨w.heap.size, 2, none⟩ v2).drew.heap.size := by
  subst hT
  subst hk
  have hB : Below b w W := ((Below.refl _ _).alloc (by omega) _).trans (h.only.below (Nat.le_refl _))
  have hB2 : Below b w (((W.setCell ⟨w.heap.size, 0, none⟩ v0).setCell ⟨w.heap.size, 1, none⟩ v1).setCell ⟨w.heap.size, 2, none⟩ v2).drew :=
    ((((hB.setCell (p := ⟨w.heap.size, 0, none⟩) (Nat.le_of_lt hb) v0).setCell (p := ⟨w.heap.size, 1, none⟩) (Nat.le_of_lt hb) v1).setCell (p := ⟨w.heap.size, 2, none⟩) (Nat.le_of_lt hb) v2)).drew
  refine ⟨hX, ?_, hB2, ?_⟩
  · show (((W.setCell ⟨w.heap.size, 0, none⟩ v0).setCell ⟨w.heap.size, 1, none⟩ v1).setCell ⟨w.heap.size, 2, none⟩ v2).cell? ⟨b, 1, none⟩ = _
    rw [World.cell?_setCell_other _ _ _ _ (by simp), World.cell?_setCell_other _ _ _ _ (by simp), World.cell?_setCell_other _ _ _ _ (by simp)]
    exact h.g1
  · exact Nat.lt_of_lt_of_le hb hB2.size

/-- The same where the draw has gone inward. -/
theorem next_postN {w W : World} {b q k len : Nat} {s X : ByteArray} {T : Nat × Nat} {v0 v1 v2 : Value} (hb : b < w.heap.size) (h : At w W b s k) (hT : T.2 = len) (hk : k = q + len) (hX : X.data.toList = (s.data.toList.drop q).take len) :
    X.data.toList = (s.data.toList.drop q).take T.2 ∧ (((W.setCell ⟨w.heap.size, 0, none⟩ v0).setCell ⟨w.heap.size, 1, none⟩ v1).setCell ⟨w.heap.size, 2, none⟩ v2).cell? ⟨b, 1, none⟩ = some (.int .i64 (q + T.2 : Nat)) ∧
    Below b w (((W.setCell ⟨w.heap.size, 0, none⟩ v0).setCell ⟨w.heap.size, 1, none⟩ v1).setCell ⟨w.heap.size, 2, none⟩ v2) ∧ b < (((W.setCell ⟨w.heap.size, 0, none⟩ v0).setCell ⟨w.heap.size, 1, none⟩ v1).setCell ⟨w.heap.size, 2, none⟩ v2).heap.size := by
  obtain ⟨p1, p2, p3, p4⟩ := next_post (X := X) (v0 := v0) (v1 := v1) (v2 := v2) hb h hT hk hX
  exact ⟨p1, p2, ⟨p3.os, p3.tape, p3.output, p3.size, p3.block⟩, p4⟩

theorem text_len {s : ByteArray} {q e len : Nat} (h : e - q = len) : (s.extract q e).data.toList = (s.data.toList.drop q).take len := by rw [Lib.extract_data, h]

/-- Does the text from q on begin with these two bytes? -/
def p2 (s : ByteArray) (q : Nat) (a c : UInt8) : Bool := Lib.hasPrefix (s.data.toList.drop q) [a, c]

theorem hasPre (s : ByteArray) (q : Nat) (a c : UInt8) (w : World) : Calls Try.prog 38 #[.string (s.extract q s.size), .string ⟨#[a, c]⟩] w fun e w' => e = .returned (.bool (p2 s q a c)) ∧ w' = w := by
  refine (Try.strings_HasPrefix _ _ _).mono ?_
  rintro e w' ⟨rfl, rfl⟩
  rw [Lib.extract_to_end]
  exact ⟨rfl, rfl⟩

theorem p2_yes {s : ByteArray} {q : Nat} {a c : UInt8} (h : q + 1 < s.size) (h1 : s[q] = a) (h2 : s[q + 1] = c) : p2 s q a c = true := by
  rw [p2, drop_two s q h, h1, h2]; simp [Lib.hasPrefix, List.isPrefixOf]
theorem p2_no {s : ByteArray} {q : Nat} {a c : UInt8} (h : ∀ h : q + 1 < s.size, ¬ (s[q] = a ∧ s[q + 1] = c)) : p2 s q a c = false := by
  cases hp : p2 s q a c with
  | false => rfl
  | true =>
    obtain ⟨l, hl⟩ := pre2 hp
    have hlen := congrArg List.length hl
    rw [List.length_drop, ← Lib.size_eq] at hlen
    simp only [List.length_cons] at hlen
    have hlt : q + 1 < s.size := by omega
    rw [drop_two s q hlt] at hl
    simp only [List.cons.injEq] at hl
    exact absurd ⟨hl.1, hl.2.1⟩ (h hlt)


/-- Where a byte stands among the operators of one byte, or -1. -/
def ixOf (c : UInt8) : Int := Lib.indexByte [40, 41, 44, 46, 59, 58, 42, 43, 45, 47, 61] c

theorem ix_any (c : UInt8) (w : World) : Calls Try.prog 39 #[.string ⟨#[40, 41, 44, 46, 59, 58, 42, 43, 45, 47, 61]⟩, .int .u8 (c.toNat : Int)] w fun e w' => e = .returned (.int .i64 (ixOf c)) ∧ w' = w := by
  refine (Try.strings_IndexByte _ _ _).mono ?_
  rintro e w' ⟨rfl, rfl⟩
  rw [Lib.byte_back]
  exact ⟨rfl, rfl⟩

theorem indexByte_mem (c : UInt8) : ∀ l : List UInt8, 0 ≤ Lib.indexByte l c ↔ c ∈ l
  | [] => by simp [Lib.indexByte]
  | a :: l => by
    have ih := indexByte_mem c l
    have hge := Lib.indexByte_ge l c
    by_cases h : a = c
    · simp [Lib.indexByte, h]
    · rw [indexByte_cons_ne l h]
      have hc : ¬ c = a := fun e => h e.symm
      by_cases hm : Lib.indexByte l c = -1
      · rw [if_pos hm]
        constructor
        · intro h'; omega
        · intro h'
          rcases List.mem_cons.1 h' with h' | h'
          · exact absurd h' hc
          · have := ih.2 h'; omega
      · rw [if_neg hm]
        constructor
        · intro _; exact List.mem_cons_of_mem _ (ih.1 (by omega))
        · intro _; omega

theorem ix_one {c : UInt8} (h : 0 ≤ ixOf c) : one c = true := by
  have := (indexByte_mem c _).1 h
  simp only [List.mem_cons, List.not_mem_nil, or_false] at this
  rcases this with rfl | rfl | rfl | rfl | rfl | rfl | rfl | rfl | rfl | rfl | rfl <;> decide

theorem ix_none {c : UInt8} (h : ixOf c < 0) (h60 : ¬ c = 60) (h62 : ¬ c = 62) : one c = false := by
  have hn : ¬ c ∈ [40, 41, 44, 46, 59, 58, 42, 43, 45, 47, 61] := fun hm => by
    have := (indexByte_mem c _).2 hm
    unfold ixOf at h
    omega
  simp only [List.mem_cons, List.not_mem_nil, or_false, not_or] at hn
  unfold one
  simp [hn, h60, h62]

/-! the operator's length, by cases -/
theorem pu_two {s : ByteArray} {q : Nat} (h : q + 1 < s.size) (ht : two s[q] s[q + 1] = true) : punct (s.data.toList.drop q) = 2 := by
  rw [drop_two s q h, punct, if_pos ht]
theorem pu_one {s : ByteArray} {q : Nat} (h : q < s.size) (ht : ∀ h : q + 1 < s.size, two s[q] s[q + 1] = false) (ho : one s[q] = true) : punct (s.data.toList.drop q) = 1 := by
  by_cases h1 : q + 1 < s.size
  · rw [drop_two s q h1, punct, if_neg (by simp [ht h1]), if_pos ho]
  · rw [drop_cons s q h, drop_nil s (q + 1) h1, punct, if_pos ho]
theorem pu_none {s : ByteArray} {q : Nat} (h : q < s.size) (ht : ∀ h : q + 1 < s.size, two s[q] s[q + 1] = false) (ho : one s[q] = false) : punct (s.data.toList.drop q) = 0 := by
  by_cases h1 : q + 1 < s.size
  · rw [drop_two s q h1, punct, if_neg (by simp [ht h1]), if_neg (by simp [ho])]
  · rw [drop_cons s q h, drop_nil s (q + 1) h1, punct, if_neg (by simp [ho])]
theorem two_head {a b : UInt8} (h58 : ¬ a = 58) (h124 : ¬ a = 124) (h60 : ¬ a = 60) (h62 : ¬ a = 62) : two a b = false := by
  unfold two; simp [h58, h124, h60, h62]
end Go.Proofs.Qxb6601015a.SK
