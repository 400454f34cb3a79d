/-
  THE WALK of zzHasPairB1 (function 12), and the plain law of a built word.
-/
import Derived.Test.Qxb6600878aProg
import Derived.Test.Qxb6600878aPlain
import Derived.Test.Qxb6600878aNext
import Derived.Test.Qxb6600878aAuto
import Derived.WalkKit
import Derived.WalkSpells
namespace Go.Proofs.Qxb6600878a.NW
open Go Go.RowKit

/-- Does the pair x y stand in l? -/
def hasP (l : List UInt8) (x y : UInt8) : Bool := !(Lib.index l [x, y] == -1)

theorem hasP_no {l : List UInt8} {x y : UInt8} (h : hasP l x y = false) : Lib.index l [x, y] = -1 := by
  simpa [hasP] using h

theorem hasP_hit (x y : UInt8) (l : List UInt8) : hasP (x :: y :: l) x y = true := by rw [hasP, index2_hit]; rfl
theorem hasP_one (c x y : UInt8) : hasP [c] x y = false := by rw [hasP, index2_one]; rfl
theorem hasP_miss {c d x y : UInt8} (l : List UInt8) (h : ¬ (c = x ∧ d = y)) : hasP (c :: d :: l) x y = hasP (d :: l) x y := by
  rw [hasP, hasP, index2_miss _ _ _ _ _ h]
  have hge := Lib.index_ge (d :: l) [x, y]
  by_cases hm : Lib.index (d :: l) [x, y] = -1
  · simp [hm]
  · rw [if_neg (by simpa using hm), beq_eq_false_iff_ne.2 hm, beq_eq_false_iff_ne.2 (by omega)]

theorem hasP_tail {c x y : UInt8} {l : List UInt8} (h : hasP (c :: l) x y = false) : hasP l x y = false := by
  cases l with
  | nil => rfl
  | cons d l =>
    by_cases hc : c = x ∧ d = y
    · obtain ⟨rfl, rfl⟩ := hc
      rw [hasP_hit] at h; cases h
    · rw [hasP_miss l hc] at h; exact h

theorem hasP_drop {x y : UInt8} : ∀ (k : Nat) {l : List UInt8}, hasP l x y = false → hasP (l.drop k) x y = false
  | 0, _, h => h
  | k + 1, [], h => by simpa using h
  | k + 1, c :: l, h => by rw [List.drop_succ_cons]; exact hasP_drop k (hasP_tail h)

theorem index_built {x y : UInt8} (hxy : ¬ x = y) (R : List UInt8) : ∀ (l : List UInt8), hasP l x y = false → Lib.index (l ++ x :: y :: R) [x, y] = l.length
  | [], _ => by rw [List.nil_append, index2_hit]; rfl
  | [c], _ => by
    show Lib.index (c :: x :: y :: R) [x, y] = _
    rw [index2_miss _ _ _ _ _ (fun h => hxy h.2), index2_hit]; rfl
  | c :: d :: l, h => by
    have ih := index_built hxy R (d :: l) (hasP_tail h)
    have hc : ¬ (c = x ∧ d = y) := by
      rintro ⟨rfl, rfl⟩
      rw [hasP_hit] at h; cases h
    show Lib.index (c :: d :: (l ++ x :: y :: R)) [x, y] = _
    rw [index2_miss _ _ _ _ _ hc, show d :: (l ++ x :: y :: R) = (d :: l) ++ x :: y :: R from rfl, ih]
    rw [if_neg (by simp only [List.length_cons, beq_iff_eq]; omega)]
    simp

theorem indexByte_built {x : UInt8} (R : List UInt8) : ∀ (l : List UInt8), Lib.indexByte l x = -1 → Lib.indexByte (l ++ x :: R) x = l.length
  | [], _ => by simp [Lib.indexByte]
  | c :: l, h => by
    have hc : ¬ (c == x) = true := by
      intro hc
      rw [Lib.indexByte, if_pos hc] at h; omega
    rw [Lib.indexByte, if_neg hc] at h
    have hge := Lib.indexByte_ge l x
    have hl : Lib.indexByte l x = -1 := by
      by_cases hm : Lib.indexByte l x = -1
      · exact hm
      · rw [if_neg (by simpa using hm)] at h; omega
    have ih := indexByte_built R l hl
    show Lib.indexByte (c :: (l ++ x :: R)) x = _
    rw [Lib.indexByte, if_neg hc, ih, if_neg (by simp only [beq_iff_eq]; omega)]
    simp

/-- The law: a built word is found whole. -/
theorem nw_built (P C T S : List UInt8) (e : UInt8) (f : Nat) (hf : f ≤ P.length) (hP : hasP P 61 63 = false) (hT : hasP T 63 61 = false) (hC : Lib.indexByte C 63 = -1) :
    nw ((P ++ 61 :: 63 :: (C ++ 63 :: e :: 63 :: (T ++ 63 :: 61 :: S))).drop f) f = ((P.length : Int), (P.length : Int) + 2 + C.length + 3 + T.length + 2, true) := by
  rw [List.drop_append_of_le_length hf]
  have h1 := index_built (x := 61) (y := 63) (by decide) (C ++ 63 :: e :: 63 :: (T ++ 63 :: 61 :: S)) (P.drop f) (hasP_drop f hP)
  rw [List.length_drop] at h1
  unfold nw
  rw [h1, if_neg (by omega)]
  have h2 : ((P.length - f : Nat) : Int) + f = P.length := by omega
  have h3 : (P.drop f ++ 61 :: 63 :: (C ++ 63 :: e :: 63 :: (T ++ 63 :: 61 :: S))).drop (((P.length - f : Nat) : Int).toNat + 2) = C ++ 63 :: e :: 63 :: (T ++ 63 :: 61 :: S) := by
    rw [Int.toNat_natCast, ← List.drop_drop, List.drop_append_of_le_length (by rw [List.length_drop]; exact Nat.le_refl _), show (P.drop f).drop (P.length - f) = [] from List.drop_eq_nil_of_le (by rw [List.length_drop]; exact Nat.le_refl _)]
    rfl
  rw [h2, h3]
  unfold mid
  rw [indexByte_built _ _ hC, if_neg (by omega)]
  have h4 : (C ++ 63 :: e :: 63 :: (T ++ 63 :: 61 :: S)).drop ((C.length : Int).toNat + 1) = e :: 63 :: (T ++ 63 :: 61 :: S) := by
    rw [Int.toNat_natCast, ← List.drop_drop, List.drop_append_of_le_length (Nat.le_refl _), List.drop_eq_nil_of_le (Nat.le_refl _)]
    rfl
  rw [h4]
  unfold fin
  have h5 : (e :: 63 :: (T ++ 63 :: 61 :: S)).drop 2 = T ++ 63 :: 61 :: S := rfl
  rw [h5, index_built (by decide) S T hT, if_neg (by simp; omega), if_pos (show (e :: 63 :: (T ++ 63 :: 61 :: S))[1]? = some 63 from rfl), if_neg (by omega)]
  simp only [Prod.mk.injEq, true_and, and_true]
  omega

theorem ret_bool {a b : Bool} (h : a = b) : Ending.returned (.bool a) = .returned (.bool b) := by rw [h]

set_option maxHeartbeats 400000 in
theorem hasPair_any (s : ByteArray) (x y : UInt8) (w : World) (hs : s.size ≤ 1048576) :
    Calls Try.prog 12 #[.string s, .int .u8 (x.toNat : Int), .int .u8 (y.toNat : Int)] w fun e w' => e = .returned (.bool (hasP s.data.toList x y)) ∧ w' = w := by
  generalize hR : hasP s.data.toList x y = R
  have HR : Hid (hasP (s.data.toList.drop 0) x y = R) := hR
  clear hR
  go_enter Try.func12, Try.ntmps12
  go_wp2
  go_loop [7] (fun i => ∃ k : Nat, k ≤ s.size ∧ i = .int .i64 k ∧ Hid (hasP (s.data.toList.drop k) x y = R)) (fun i => s.size - (intOf i).toNat)
  case atStart => exact ⟨0, by omega, rfl, HR⟩
  case round =>
    obtain ⟨k, hk, rfl, H⟩ := hrel
    by_cases hlt : k + 1 < s.size
    · have hd : Hid (s.data.toList.drop k = s[k] :: s[k + 1] :: s.data.toList.drop (k + 2)) := by
        show s.data.toList.drop k = s[k] :: s[k + 1] :: s.data.toList.drop (k + 2)
        rw [drop_cons s k (by omega), drop_cons s (k + 1) hlt]
      by_cases c1 : s[k] = x
      · have t1 : ((s[k].toNat : Int) == (x.toNat : Int)) = true := byte_eq c1
        by_cases c2 : s[k + 1] = y
        · have t2 : ((s[k + 1].toNat : Int) == (y.toNat : Int)) = true := byte_eq c2
          have HN : Hid (true = R) := by
            show true = R
            rw [← H.out, hd.out, c1, c2, hasP_hit]
          clear c1 c2
          go_wp2
          go_ret
          exact ⟨ret_bool HN.out, rfl⟩
        · have t2 : ((s[k + 1].toNat : Int) == (y.toNat : Int)) = false := byte_ne c2
          have HN : Hid (hasP (s.data.toList.drop (k + 1)) x y = R) := by
            show hasP (s.data.toList.drop (k + 1)) x y = R
            rw [← H.out, hd.out, hasP_miss _ (fun h => c2 h.2), drop_cons s (k + 1) hlt]
          clear c1 c2
          go_wp2
          go_round
          case rel => exact ⟨k + 1, by omega, by go_num, HN⟩
          case measure => simp [intOf]; omega
      · have t1 : ((s[k].toNat : Int) == (x.toNat : Int)) = false := byte_ne c1
        have HN : Hid (hasP (s.data.toList.drop (k + 1)) x y = R) := by
          show hasP (s.data.toList.drop (k + 1)) x y = R
          rw [← H.out, hd.out, hasP_miss _ (fun h => c1 h.1), drop_cons s (k + 1) hlt]
        clear c1
        go_wp2
        go_round
        case rel => exact ⟨k + 1, by omega, by go_num, HN⟩
        case measure => simp [intOf]; omega
    · have HN : Hid (false = R) := by
        show false = R
        rw [← H.out]
        by_cases e : k < s.size
        · rw [drop_cons s k e, List.drop_eq_nil_of_le (by rw [← Lib.size_eq]; omega), hasP_one]
        · rw [List.drop_eq_nil_of_le (by rw [← Lib.size_eq]; omega)]; rfl
      go_wp2
      go_ret
      exact ⟨ret_bool HN.out, rfl⟩

theorem hasPair_eq (s : ByteArray) (w : World) (hs : s.size ≤ 1048576) :
    Calls Try.prog 12 #[.string s, .int .u8 61, .int .u8 63] w fun e w' => e = .returned (.bool (hasP s.data.toList 61 63)) ∧ w' = w :=
  hasPair_any s 61 63 w hs

theorem hasPair_qe (s : ByteArray) (w : World) (hs : s.size ≤ 1048576) :
    Calls Try.prog 12 #[.string s, .int .u8 63, .int .u8 61] w fun e w' => e = .returned (.bool (hasP s.data.toList 63 61)) ∧ w' = w :=
  hasPair_any s 63 61 w hs
end Go.Proofs.Qxb6600878a.NW
