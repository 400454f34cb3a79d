/-
  LEMMAS for the walk of (*Lexer).scanNumber (34).
-/
import Derived.Test.Qxb6601015aScan
namespace Go.Proofs.Qxb6601015a.SK
open Go Go.RowKit

theorem LexIs.cast {w W : World} {b : Nat} {s : ByteArray} {k k' : Int} (h : LexIs w W b s k) (e : k = k') : LexIs w W b s k' := e ▸ h

theorem skipDigits_lex {w0 : World} (s : ByteArray) (p b : Nat) (w : World) (hs : s.size ≤ 1048576) (hp : p ≤ s.size) (h : LexIs w0 w b s p) :
    Calls Try.prog 42 #[.pointer (some ⟨b, 0, none⟩)] w fun e w' => e = .returned (.tuple #[]) ∧ LexIs w0 w' b s (p + run dig (s.data.toList.drop p) : Nat) :=
  (skipDigits_any s p b w hs hp h.1 h.2.1 h.2.2.1).mono fun _ _ ⟨he, hB, c0, c1, cf⟩ => ⟨he, c0, c1, cf, h.2.2.2.trans hB⟩

theorem drop_run_le (s : ByteArray) (k : Nat) (hk : k ≤ s.size) : k + run dig (s.data.toList.drop k) ≤ s.size := by
  have := run_le dig (s.data.toList.drop k)
  rw [List.length_drop, ← Lib.size_eq] at this
  omega

theorem expo_e_yes {s : ByteArray} {k kd : Nat} (hlt : k + 1 < s.size) (he : s[k] = 101 ∨ s[k] = 69) (hs : ¬ (s[k + 1] = 43 ∨ s[k + 1] = 45)) (hd : dig s[k + 1] = true) :
    expo kd (s.data.toList.drop k) k = (3, k + 1 + run dig (s.data.toList.drop (k + 1))) := by
  rw [drop_two s k hlt, expo_yes _ _ _ _ he, if_neg hs, if_pos hd, drop_cons s (k + 1) hlt]
theorem expo_e_no {s : ByteArray} {k kd : Nat} (hlt : k + 1 < s.size) (he : s[k] = 101 ∨ s[k] = 69) (hs : ¬ (s[k + 1] = 43 ∨ s[k + 1] = 45)) (hd : dig s[k + 1] = false) :
    expo kd (s.data.toList.drop k) k = (kd, k) := by
  rw [drop_two s k hlt, expo_yes _ _ _ _ he, if_neg hs, if_neg (by simp [hd])]
theorem expo_s_yes {s : ByteArray} {k kd : Nat} (hlt : k + 2 < s.size) (he : s[k] = 101 ∨ s[k] = 69) (hs : s[k + 1] = 43 ∨ s[k + 1] = 45) (hd : dig s[k + 2] = true) :
    expo kd (s.data.toList.drop k) k = (3, k + 2 + run dig (s.data.toList.drop (k + 2))) := by
  rw [drop_two s k (by omega), expo_yes _ _ _ _ he, if_pos hs, if_pos]
  rw [drop_cons s (k + 2) hlt]; exact hd
theorem expo_s_no {s : ByteArray} {k kd : Nat} (hlt : k + 2 < s.size) (he : s[k] = 101 ∨ s[k] = 69) (hs : s[k + 1] = 43 ∨ s[k + 1] = 45) (hd : dig s[k + 2] = false) :
    expo kd (s.data.toList.drop k) k = (kd, k) := by
  rw [drop_two s k (by omega), expo_yes _ _ _ _ he, if_pos hs, if_neg]
  rw [drop_cons s (k + 2) hlt]; show ¬ dig s[k + 2] = true; simp [hd]
theorem expo_s_end {s : ByteArray} {k kd : Nat} (hlt : k + 1 < s.size) (hn : ¬ k + 2 < s.size) (he : s[k] = 101 ∨ s[k] = 69) (hs : s[k + 1] = 43 ∨ s[k + 1] = 45) :
    expo kd (s.data.toList.drop k) k = (kd, k) := by
  rw [drop_two s k hlt, expo_yes _ _ _ _ he, if_pos hs, if_neg]
  rw [drop_nil s (k + 2) hn]; show ¬ false = true; decide
theorem expo_e_end {s : ByteArray} {k kd : Nat} (hlt : k < s.size) (hn : ¬ k + 1 < s.size) : expo kd (s.data.toList.drop k) k = (kd, k) := by
  rw [drop_cons s k hlt, drop_nil s (k + 1) hn, expo_one]
theorem expo_none {s : ByteArray} {k kd : Nat} (hlt : k < s.size) (he : ¬ (s[k] = 101 ∨ s[k] = 69)) : expo kd (s.data.toList.drop k) k = (kd, k) := by
  rw [drop_cons s k hlt, expo_no _ _ _ he]
theorem expo_end {s : ByteArray} {k kd : Nat} (hn : ¬ k < s.size) : expo kd (s.data.toList.drop k) k = (kd, k) := by
  rw [drop_nil s k hn, expo_nil]

end Go.Proofs.Qxb6601015a.SK
