/-
  THE PLAIN LAW behind FnNextWordMatchesAutomaton and FnNextWordFindsABuiltWord: lists of bytes, no Go.
-/
import Derived.Lib.IndexBytes
namespace Go.Proofs.Qxb6600878a.NW
open Go

/-- The one-pass automaton: what is left of the text, the state, the start found, 'the byte before was =', the place. -/
def auto : List UInt8 → Nat → Int → Bool → Int → Int × Int × Bool
  | [], _, _, _, _ => (0, 0, false)
  | c :: l, 0, s, pe, i => if pe && c == 63 then auto l 1 (i - 1) (c == 61) (i + 1) else auto l 0 s (c == 61) (i + 1)
  | c :: l, 1, s, pe, i => if c == 63 then auto l 2 s pe (i + 1) else auto l 1 s pe (i + 1)
  | _ :: l, 2, s, pe, i => auto l 3 s pe (i + 1)
  | c :: l, 3, s, pe, i => if c == 63 then auto l 4 s pe (i + 1) else (0, 0, false)
  | c :: l, 4, s, pe, i => if c == 63 then auto l 5 s pe (i + 1) else auto l 4 s pe (i + 1)
  | c :: l, _ + 5, s, pe, i => if c == 61 then (s, i + 1, true) else if c == 63 then auto l 5 s pe (i + 1) else auto l 4 s pe (i + 1)

/-- What nextWord answers over the text from 'from' on. -/
def fin (l2 : List UInt8) (s i : Int) : Int × Int × Bool :=
  if l2.length < 4 then (0, 0, false) else
  if l2[1]? = some 63 then
    if Lib.index (l2.drop 2) [63, 61] < 0 then (0, 0, false) else (s, i + 2 + Lib.index (l2.drop 2) [63, 61] + 2, true)
  else (0, 0, false)

def mid (l1 : List UInt8) (s i : Int) : Int × Int × Bool :=
  if Lib.indexByte l1 63 < 0 then (0, 0, false) else
  fin (l1.drop ((Lib.indexByte l1 63).toNat + 1)) s (i + (Lib.indexByte l1 63 + 1))

def nw (l : List UInt8) (i : Int) : Int × Int × Bool :=
  if Lib.index l [61, 63] < 0 then (0, 0, false) else
  mid (l.drop ((Lib.index l [61, 63]).toNat + 2)) (Lib.index l [61, 63] + i) (Lib.index l [61, 63] + i + 2)

theorem index2_nil (x y : UInt8) : Lib.index [] [x, y] = -1 := rfl
theorem index2_one (c x y : UInt8) : Lib.index [c] [x, y] = -1 := by
  simp [Lib.index, List.isPrefixOf]
theorem index2_hit (x y : UInt8) (l : List UInt8) : Lib.index (x :: y :: l) [x, y] = 0 := by
  simp [Lib.index, List.isPrefixOf]
theorem index2_miss (c d x y : UInt8) (l : List UInt8) (h : ¬ (c = x ∧ d = y)) :
    Lib.index (c :: d :: l) [x, y] = if Lib.index (d :: l) [x, y] == -1 then -1 else Lib.index (d :: l) [x, y] + 1 := by
  have hp : List.isPrefixOf [x, y] (c :: d :: l) = false := by
    simp only [List.isPrefixOf, Bool.and_eq_false_iff, beq_eq_false_iff_ne]
    by_cases hc : x = c
    · right; left; intro e; exact h ⟨hc.symm, e.symm⟩
    · left; exact hc
  rw [Lib.index, hp]; rfl

theorem auto5 (c : UInt8) (l : List UInt8) (s : Int) (pe : Bool) (i : Int) :
    auto (c :: l) 5 s pe i = if c = 61 then (s, i + 1, true) else auto (c :: l) 4 s pe i := by
  by_cases h : c = 61 <;> simp [auto, h]

theorem auto4 (s : Int) (pe : Bool) : ∀ (l : List UInt8) (i : Int),
    auto l 4 s pe i = if Lib.index l [63, 61] < 0 then (0, 0, false) else (s, i + Lib.index l [63, 61] + 2, true)
  | [], i => by simp [auto, index2_nil]
  | [c], i => by
    rw [index2_one]
    by_cases h : c = 63 <;> simp [auto, h]
  | c :: d :: l, i => by
    have ih := auto4 s pe (d :: l) (i + 1)
    have hge := Lib.index_ge (d :: l) [63, 61]
    by_cases hc : c = 63
    · subst hc
      by_cases hd : d = 61
      · subst hd
        rw [index2_hit]
        simp [auto]; omega
      · rw [index2_miss _ _ _ _ _ (fun h => hd h.2)]
        have e : auto (63 :: d :: l) 4 s pe i = auto (d :: l) 4 s pe (i + 1) := by
          rw [show auto (63 :: d :: l) 4 s pe i = auto (d :: l) 5 s pe (i + 1) from by simp [auto], auto5, if_neg hd]
        rw [e, ih]
        by_cases hm : Lib.index (d :: l) [63, 61] = -1
        · simp [hm]
        · have h0 : ¬ Lib.index (d :: l) [63, 61] < 0 := by omega
          rw [if_neg h0, if_neg (show ¬ (Lib.index (d :: l) [63, 61] == -1) = true from by simpa using hm), if_neg (by omega)]
          simp only [Prod.mk.injEq, true_and, and_true]; omega
    · rw [index2_miss _ _ _ _ _ (fun h => hc h.1)]
      have e : auto (c :: d :: l) 4 s pe i = auto (d :: l) 4 s pe (i + 1) := by
        rw [auto, if_neg (by simpa using hc)]
      rw [e, ih]
      by_cases hm : Lib.index (d :: l) [63, 61] = -1
      · simp [hm]
      · have h0 : ¬ Lib.index (d :: l) [63, 61] < 0 := by omega
        rw [if_neg h0, if_neg (show ¬ (Lib.index (d :: l) [63, 61] == -1) = true from by simpa using hm), if_neg (by omega)]
        simp only [Prod.mk.injEq, true_and, and_true]; omega

theorem auto2 (s : Int) (pe : Bool) (l : List UInt8) (i : Int) : auto l 2 s pe i = fin l s i := by
  match l with
  | [] => simp [auto, fin]
  | [a] => simp [auto, fin]
  | [a, b] => by_cases h : b = 63 <;> simp [auto, fin, h]
  | [a, b, c] => 
    by_cases h : b = 63
    · subst h
      rw [show auto [a, 63, c] 2 s pe i = auto [c] 4 s pe (i + 1 + 1) from by simp [auto], auto4, index2_one]
      simp [fin]
    · simp [auto, fin, h]
  | a :: b :: c :: d :: r =>
    by_cases h : b = 63
    · subst h
      rw [show auto (a :: 63 :: c :: d :: r) 2 s pe i = auto (c :: d :: r) 4 s pe (i + 1 + 1) from by simp [auto], auto4]
      have e : i + 1 + 1 = i + 2 := by omega
      simp [fin, e]
      intro h; omega
    · simp [auto, fin, h]

theorem auto1 (s : Int) (pe : Bool) : ∀ (l : List UInt8) (i : Int), auto l 1 s pe i = mid l s i
  | [], i => by simp [auto, mid, Lib.indexByte]
  | c :: l, i => by
    have ih := auto1 s pe l (i + 1)
    have hge := Lib.indexByte_ge l 63
    by_cases hc : c = 63
    · subst hc
      rw [show auto (63 :: l) 1 s pe i = auto l 2 s pe (i + 1) from by simp [auto], auto2]
      simp [mid, Lib.indexByte]
    · rw [auto, if_neg (by simpa using hc), ih]
      have hb : Lib.indexByte (c :: l) 63 = if Lib.indexByte l 63 == -1 then -1 else Lib.indexByte l 63 + 1 := by
        rw [Lib.indexByte, if_neg (by simpa using hc)]
      by_cases hm : Lib.indexByte l 63 = -1
      · have hb' : Lib.indexByte (c :: l) 63 = -1 := by rw [hb]; simp [hm]
        simp [mid, hm, hb']
      · have hb' : Lib.indexByte (c :: l) 63 = Lib.indexByte l 63 + 1 := by rw [hb, if_neg (by simpa using hm)]
        have h0 : ¬ Lib.indexByte l 63 < 0 := by omega
        have h1 : ¬ Lib.indexByte l 63 + 1 < 0 := by omega
        unfold mid
        rw [hb', if_neg h0, if_neg h1]
        have e1 : (Lib.indexByte l 63 + 1).toNat + 1 = ((Lib.indexByte l 63).toNat + 1) + 1 := by omega
        have e2 : i + 1 + (Lib.indexByte l 63 + 1) = i + (Lib.indexByte l 63 + 1 + 1) := by omega
        rw [e1, List.drop_succ_cons, e2]

theorem auto0 (s : Int) : ∀ (l : List UInt8) (i : Int), auto l 0 s false i = nw l i
  | [], i => by simp [auto, nw, index2_nil]
  | [c], i => by simp [auto, nw, index2_one]
  | c :: d :: l, i => by
    have ih := auto0 s (d :: l) (i + 1)
    have hge := Lib.index_ge (d :: l) [61, 63]
    by_cases hc : c = 61 ∧ d = 63
    · obtain ⟨rfl, rfl⟩ := hc
      rw [show auto (61 :: 63 :: l) 0 s false i = auto l 1 (i + 1 - 1) false (i + 1 + 1) from by simp [auto], auto1]
      unfold nw
      rw [index2_hit]
      have e1 : i + 1 - 1 = 0 + i := by omega
      have e2 : i + 1 + 1 = 0 + i + 2 := by omega
      simp [e1, e2]
    · have e : auto (c :: d :: l) 0 s false i = auto (d :: l) 0 s false (i + 1) := by
        by_cases h61 : c = 61
        · have hd : ¬ d = 63 := fun h => hc ⟨h61, h⟩
          simp [auto, h61, hd]
        · simp [auto, h61]
      rw [e, ih]
      have hi := index2_miss c d 61 63 l hc
      by_cases hm : Lib.index (d :: l) [61, 63] = -1
      · have hb' : Lib.index (c :: d :: l) [61, 63] = -1 := by rw [hi]; simp [hm]
        unfold nw; rw [hm, hb']; rfl
      · have hb' : Lib.index (c :: d :: l) [61, 63] = Lib.index (d :: l) [61, 63] + 1 := by rw [hi, if_neg (by simpa using hm)]
        unfold nw
        rw [hb', if_neg (by omega), if_neg (by omega)]
        have e1 : (Lib.index (d :: l) [61, 63] + 1).toNat + 2 = ((Lib.index (d :: l) [61, 63]).toNat + 2) + 1 := by omega
        have e2 : Lib.index (d :: l) [61, 63] + (i + 1) = Lib.index (d :: l) [61, 63] + 1 + i := by omega
        rw [e1, e2]; rfl

theorem index2_room (x y : UInt8) : ∀ (l : List UInt8) (n : Nat), Lib.index l [x, y] = n → n + 2 ≤ l.length
  | [], n, h => by rw [index2_nil] at h; omega
  | [c], n, h => by rw [index2_one] at h; omega
  | c :: d :: l, n, h => by
    by_cases hc : c = x ∧ d = y
    · obtain ⟨rfl, rfl⟩ := hc
      rw [index2_hit] at h
      simp only [List.length_cons]; omega
    · rw [index2_miss _ _ _ _ _ hc] at h
      by_cases hm : Lib.index (d :: l) [x, y] = -1
      · rw [if_pos (by simpa using hm)] at h; omega
      · rw [if_neg (by simpa using hm)] at h
        have hge := Lib.index_ge (d :: l) [x, y]
        have := index2_room x y (d :: l) (Lib.index (d :: l) [x, y]).toNat (by omega)
        simp only [List.length_cons] at this ⊢; omega

theorem indexByte_room (x : UInt8) : ∀ (l : List UInt8) (n : Nat), Lib.indexByte l x = n → n + 1 ≤ l.length
  | [], n, h => by rw [show Lib.indexByte [] x = -1 from rfl] at h; omega
  | c :: l, n, h => by
    unfold Lib.indexByte at h
    by_cases hc : (c == x) = true
    · rw [if_pos hc] at h; simp only [List.length_cons]; omega
    · rw [if_neg hc] at h
      by_cases hm : Lib.indexByte l x = -1
      · rw [if_pos (by simpa using hm)] at h; omega
      · rw [if_neg (by simpa using hm)] at h
        have hge := Lib.indexByte_ge l x
        have := indexByte_room x l (Lib.indexByte l x).toNat (by omega)
        simp only [List.length_cons]; omega

/-! nextWord's ways, one lemma a way: 'l' the text, 'f' where the search begins. -/
theorem nw_no1 {l : List UInt8} {f : Nat} (h : Lib.index (l.drop f) [61, 63] < 0) : nw (l.drop f) f = (0, 0, false) := by
  unfold nw; rw [if_pos h]

theorem nw_no2 {l : List UInt8} {f a : Nat} (h : Lib.index (l.drop f) [61, 63] = a) (hb : Lib.indexByte (l.drop (a + f + 2)) 63 < 0) : nw (l.drop f) f = (0, 0, false) := by
  unfold nw
  rw [h, if_neg (by omega), List.drop_drop, show f + ((a : Int).toNat + 2) = a + f + 2 from by omega]
  unfold mid; rw [if_pos hb]

theorem nw_fin {l : List UInt8} {f a b : Nat} (h : Lib.index (l.drop f) [61, 63] = a) (hb : Lib.indexByte (l.drop (a + f + 2)) 63 = b) :
    nw (l.drop f) f = fin (l.drop (a + f + 2 + (b + 1))) ((a : Int) + f) ((a : Int) + f + 2 + (b + 1)) := by
  unfold nw
  rw [h, if_neg (by omega), List.drop_drop, show f + ((a : Int).toNat + 2) = a + f + 2 from by omega]
  unfold mid
  rw [hb, if_neg (by omega), List.drop_drop, show a + f + 2 + ((b : Int).toNat + 1) = a + f + 2 + (b + 1) from by omega]

theorem fin_short {l : List UInt8} {c : Nat} {s i : Int} (h : l.length < c + 4) : fin (l.drop c) s i = (0, 0, false) := by
  unfold fin; rw [if_pos (by rw [List.length_drop]; omega)]

theorem fin_noq {l : List UInt8} {c : Nat} {s i : Int} (h : c + 4 ≤ l.length) (hq : l[c + 1]? ≠ some 63) : fin (l.drop c) s i = (0, 0, false) := by
  unfold fin; rw [if_neg (by rw [List.length_drop]; omega), if_neg (by rw [List.getElem?_drop]; exact hq)]

theorem fin_no {l : List UInt8} {c : Nat} {s i : Int} (hj : Lib.index (l.drop (c + 2)) [63, 61] < 0) : fin (l.drop c) s i = (0, 0, false) := by
  unfold fin
  rw [List.drop_drop, if_pos hj]
  split
  · rfl
  · split
    · rfl
    · rfl

theorem fin_yes {l : List UInt8} {c j : Nat} {s i : Int} (h : c + 4 ≤ l.length) (hq : l[c + 1]? = some 63) (hj : Lib.index (l.drop (c + 2)) [63, 61] = j) :
    fin (l.drop c) s i = (s, i + 2 + j + 2, true) := by
  unfold fin
  rw [if_neg (by rw [List.length_drop]; omega), if_pos (by rw [List.getElem?_drop]; exact hq), List.drop_drop, hj, if_neg (by omega)]
end Go.Proofs.Qxb6600878a.NW
