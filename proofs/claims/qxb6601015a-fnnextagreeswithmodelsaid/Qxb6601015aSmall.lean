/-
  THE WALKS of isSpace (40), zzSynBlankByte (33), commentEnd (41).
-/
import Derived.Test.Qxb6601015aProg
import Derived.Test.Qxb6601015aShelf
import Derived.Test.Qxb6601015aPlain
import Derived.WalkKit
import Derived.WalkSpells
import Derived.WalkLawsBesides
namespace Go.Proofs.Qxb6601015a.SK
open Go Go.RowKit

theorem drop_cons (s : ByteArray) (k : Nat) (h : k < s.size) : s.data.toList.drop k = s[k] :: s.data.toList.drop (k + 1) := by
  have hl : k < s.data.toList.length := by rw [← Lib.size_eq]; exact h
  rw [List.drop_eq_getElem_cons hl]; rfl

theorem byte_eq {c : UInt8} {n : UInt8} (h : c = n) : ((c.toNat : Int) == (n.toNat : Int)) = true := by rw [h]; simp
theorem byte_ne {c : UInt8} {n : UInt8} (h : ¬ c = n) : ((c.toNat : Int) == (n.toNat : Int)) = false := by
  rw [beq_eq_false_iff_ne]; intro e; exact h (UInt8.toNat_inj.1 (by omega))
theorem byte_beq (c n : UInt8) : ((c.toNat : Int) == (n.toNat : Int)) = (c == n) := by
  by_cases h : c = n
  · rw [byte_eq h]; simp [h]
  · rw [byte_ne h]; simp [h]

theorem ret_bool {a b : Bool} (h : a = b) : Ending.returned (.bool a) = .returned (.bool b) := by rw [h]
theorem ret_int {k : IntKind} {a b : Int} (h : a = b) : Ending.returned (.int k a) = .returned (.int k b) := by rw [h]

theorem blank_int (c : UInt8) : blank c = ((c.toNat : Int) == 32 || (c.toNat : Int) == 9 || (c.toNat : Int) == 10 || (c.toNat : Int) == 13 || (c.toNat : Int) == 12 || (c.toNat : Int) == 11) := by
  unfold blank
  rw [← byte_beq c 32, ← byte_beq c 9, ← byte_beq c 10, ← byte_beq c 13, ← byte_beq c 12, ← byte_beq c 11]
  rfl

theorem isSpace_any (c : UInt8) (w : World) : Calls Try.prog 40 #[.int .u8 (c.toNat : Int)] w fun e w' => e = .returned (.bool (blank c)) ∧ w' = w := by
  rw [blank_int]
  go_enter Try.func40, Try.ntmps40
  go_wp2
  all_goals go_ret
  all_goals exact ⟨ret_bool (by simp [*]), rfl⟩

theorem blankByte_any (c : UInt8) (w : World) : Calls Try.prog 33 #[.int .u8 (c.toNat : Int)] w fun e w' => e = .returned (.bool (blank c)) ∧ w' = w := by
  rw [blank_int]
  go_enter Try.func33, Try.ntmps33
  go_wp2
  all_goals go_ret
  all_goals exact ⟨ret_bool (by simp [*]), rfl⟩

theorem piece (s : ByteArray) (k : Nat) (h : k + 1 < s.size) : (s.extract k (k + 2)).toList = [s[k], s[k + 1]] := by
  rw [Lib.extract_toList, drop_cons s k (by omega), drop_cons s (k + 1) h, show k + 2 - k = 2 from by omega]
  rfl

theorem piece_yes {s : ByteArray} {k : Nat} {a b : UInt8} (h : k + 1 < s.size) (ht : ((s.extract k (k + 2)).toList == [a, b]) = true) : s[k] = a ∧ s[k + 1] = b := by
  rw [piece s k h] at ht
  simpa using ht

theorem piece_no {s : ByteArray} {k : Nat} {a b : UInt8} (h : k + 1 < s.size) (ht : ((s.extract k (k + 2)).toList == [a, b]) = false) : ¬ (s[k] = a ∧ s[k + 1] = b) := by
  rw [piece s k h] at ht
  simpa using ht

theorem drop_two (s : ByteArray) (k : Nat) (h : k + 1 < s.size) : s.data.toList.drop k = s[k] :: s[k + 1] :: s.data.toList.drop (k + 2) := by
  rw [drop_cons s k (by omega), drop_cons s (k + 1) h]

def cendInt (o : Option Nat) : Int := match o with | none => -1 | some e => e

theorem map_map_add (o : Option Nat) (a b c : Nat) (h : a + b = c) : (o.map (· + a)).map (· + b) = o.map (· + c) := by
  cases o with
  | none => rfl
  | some e => simp only [Option.map_some]; congr 1; omega

theorem ce_in {s : ByteArray} {k : Nat} {d R : Int} (hlt : k + 1 < s.size) (H : cendInt ((cend (s.data.toList.drop k) d).map (· + k)) = R) (ht : ((s.extract k (k + 2)).toList == [47, 42]) = true) :
    cendInt ((cend (s.data.toList.drop (k + 2)) (d + 1)).map (· + (k + 2))) = R := by
  obtain ⟨h1, h2⟩ := piece_yes hlt ht
  rw [← H, drop_two s k hlt, cend, if_pos ⟨h1, h2⟩, map_map_add _ 2 k (k + 2) (by omega)]

theorem ce_done {s : ByteArray} {k : Nat} {d R : Int} (hlt : k + 1 < s.size) (H : cendInt ((cend (s.data.toList.drop k) d).map (· + k)) = R) (hn : ((s.extract k (k + 2)).toList == [47, 42]) = false) (ht : ((s.extract k (k + 2)).toList == [42, 47]) = true) (hd : (d - 1 == 0) = true) :
    (k : Int) + 2 = R := by
  obtain ⟨h1, h2⟩ := piece_yes hlt ht
  rw [← H, drop_two s k hlt, cend, if_neg (piece_no hlt hn), if_pos ⟨h1, h2⟩, if_pos (by simpa using hd)]
  show (k : Int) + 2 = ((2 + k : Nat) : Int)
  omega

theorem ce_out {s : ByteArray} {k : Nat} {d R : Int} (hlt : k + 1 < s.size) (H : cendInt ((cend (s.data.toList.drop k) d).map (· + k)) = R) (hn : ((s.extract k (k + 2)).toList == [47, 42]) = false) (ht : ((s.extract k (k + 2)).toList == [42, 47]) = true) (hd : (d - 1 == 0) = false) :
    cendInt ((cend (s.data.toList.drop (k + 2)) (d - 1)).map (· + (k + 2))) = R := by
  obtain ⟨h1, h2⟩ := piece_yes hlt ht
  rw [← H, drop_two s k hlt, cend, if_neg (piece_no hlt hn), if_pos ⟨h1, h2⟩, if_neg (by simpa using hd), map_map_add _ 2 k (k + 2) (by omega)]

theorem ce_on {s : ByteArray} {k : Nat} {d R : Int} (hlt : k + 1 < s.size) (H : cendInt ((cend (s.data.toList.drop k) d).map (· + k)) = R) (hn : ((s.extract k (k + 2)).toList == [47, 42]) = false) (ht : ((s.extract k (k + 2)).toList == [42, 47]) = false) :
    cendInt ((cend (s.data.toList.drop (k + 1)) d).map (· + (k + 1))) = R := by
  rw [← H, drop_two s k hlt, cend, if_neg (piece_no hlt hn), if_neg (piece_no hlt ht), map_map_add _ 1 k (k + 1) (by omega), ← drop_cons s (k + 1) hlt]

set_option maxHeartbeats 400000 in
theorem commentEnd_any (s : ByteArray) (w : World) (hs : s.size ≤ 1048576) : Calls Try.prog 41 #[.string s] w fun e w' => e = .returned (.int .i64 (cendInt (cend s.data.toList 0))) ∧ w' = w := by
  generalize hR : cendInt (cend s.data.toList 0) = R
  have HR : Hid (cendInt ((cend (s.data.toList.drop 0) 0).map (· + 0)) = R) := by
    show cendInt ((cend (s.data.toList.drop 0) 0).map (· + 0)) = R
    rw [← hR]; simp
  clear hR
  go_enter Try.func41, Try.ntmps41
  go_wp2
  go_loop [3, 4] (fun dv iv => ∃ (k : Nat) (d : Int), k ≤ s.size ∧ -(k : Int) ≤ d ∧ d ≤ k ∧ dv = .int .i64 d ∧ iv = .int .i64 k ∧ Hid (cendInt ((cend (s.data.toList.drop k) d).map (· + k)) = R)) (fun _ i => s.size - (intOf i).toNat)
  case atStart => exact ⟨0, 0, by omega, by omega, by omega, rfl, rfl, HR⟩
  case round =>
    obtain ⟨k, d, hk, hd1, hd2, rfl, rfl, H⟩ := hrel
    by_cases hlt : k + 1 < s.size
    · go_wp2
      · go_round
        case rel => exact ⟨k + 2, d + 1, by omega, by omega, by omega, rfl, by go_num, ce_in hlt H.out ‹_›⟩
        case measure => simp [intOf]; omega
      · go_ret
        exact ⟨ret_int (ce_done hlt H.out ‹_› ‹_› ‹_›), rfl⟩
      · go_round
        case rel => exact ⟨k + 2, d - 1, by omega, by omega, by omega, rfl, by go_num, ce_out hlt H.out ‹_› ‹_› ‹_›⟩
        case measure => simp [intOf]; omega
      · go_round
        case rel => exact ⟨k + 1, d, by omega, by omega, by omega, rfl, by go_num, ce_on hlt H.out ‹_› ‹_›⟩
        case measure => simp [intOf]; omega
    · have HN : Hid ((-1 : Int) = R) := by
        show (-1 : Int) = R
        rw [← H.out]
        by_cases e : k < s.size
        · rw [drop_cons s k e, List.drop_eq_nil_of_le (by rw [← Lib.size_eq]; omega)]; rfl
        · rw [List.drop_eq_nil_of_le (by rw [← Lib.size_eq]; omega)]; rfl
      go_wp2
      go_ret
      exact ⟨ret_int HN.out, rfl⟩
end Go.Proofs.Qxb6601015a.SK
