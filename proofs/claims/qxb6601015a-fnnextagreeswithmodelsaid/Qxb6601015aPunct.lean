/-
  THE WALK of zzSynPunctLen (31).
-/
import Derived.Test.Qxb6601015aScan
namespace Go.Proofs.Qxb6601015a.SK
open Go Go.RowKit

theorem one_int (c : UInt8) : one c = ((c.toNat : Int) == 40 || (c.toNat : Int) == 41 || (c.toNat : Int) == 44 || (c.toNat : Int) == 46 || (c.toNat : Int) == 59 || (c.toNat : Int) == 58 || (c.toNat : Int) == 42 || (c.toNat : Int) == 43 || (c.toNat : Int) == 45 || (c.toNat : Int) == 47 || (c.toNat : Int) == 61 || (c.toNat : Int) == 60 || (c.toNat : Int) == 62) := by
  unfold one
  rw [← byte_beq c 40, ← byte_beq c 41, ← byte_beq c 44, ← byte_beq c 46, ← byte_beq c 59, ← byte_beq c 58, ← byte_beq c 42, ← byte_beq c 43, ← byte_beq c 45, ← byte_beq c 47, ← byte_beq c 61, ← byte_beq c 60, ← byte_beq c 62]
  rfl

theorem piece_beq (s : ByteArray) (k : Nat) (h : k + 1 < s.size) (a b : UInt8) : ((s.extract k (k + 2)).toList == [a, b]) = (s[k] == a && s[k + 1] == b) := by
  rw [piece s k h]
  by_cases h1 : s[k] = a <;> by_cases h2 : s[k + 1] = b <;> simp [h1, h2]

theorem two_int (s : ByteArray) (k : Nat) (h : k + 1 < s.size) : two s[k] s[k + 1] = (((s.extract k (k + 2)).toList == [58, 58]) || ((s.extract k (k + 2)).toList == [124, 124]) || ((s.extract k (k + 2)).toList == [60, 61]) || ((s.extract k (k + 2)).toList == [62, 61]) || ((s.extract k (k + 2)).toList == [60, 62])) := by
  rw [piece_beq s k h, piece_beq s k h, piece_beq s k h, piece_beq s k h, piece_beq s k h]; rfl

theorem punct_two {s : ByteArray} {k : Nat} (h : k + 1 < s.size) : punct (s.data.toList.drop k) = if two s[k] s[k + 1] then 2 else if one s[k] then 1 else 0 := by
  rw [drop_two s k h, punct]
theorem punct_one {s : ByteArray} {k : Nat} (h : k < s.size) (hn : ¬ k + 1 < s.size) : punct (s.data.toList.drop k) = if one s[k] then 1 else 0 := by
  rw [drop_cons s k h, drop_nil s (k + 1) hn, punct]

theorem punct_val2 {s : ByteArray} {k R : Nat} (h : k + 1 < s.size) (H : punct (s.data.toList.drop k) = R) : (two s[k] s[k + 1] = true → R = 2) ∧ (two s[k] s[k + 1] = false → one s[k] = true → R = 1) ∧ (two s[k] s[k + 1] = false → one s[k] = false → R = 0) := by
  rw [← H, punct_two h]
  refine ⟨fun h1 => ?_, fun h1 h2 => ?_, fun h1 h2 => ?_⟩ <;> simp [*]

set_option maxRecDepth 100000 in
set_option maxHeartbeats 1000000 in
theorem punctLen_any (s : ByteArray) (k : Nat) (w : World) (hs : s.size ≤ 1048576) (hk : k < s.size) :
    Calls Try.prog 31 #[.string s, .int .i64 k] w fun e w' => e = .returned (.int .i64 (punct (s.data.toList.drop k) : Nat)) ∧ w' = w := by
  generalize hR : punct (s.data.toList.drop k) = R
  by_cases hlt : k + 1 < s.size
  · rw [punct_two hlt, two_int s k hlt, one_int] at hR
    have HR := hR
    have HR' : Hid _ := HR
    clear hR HR
    go_enter Try.func31, Try.ntmps31
    go_wp2
    all_goals go_ret
    all_goals refine ⟨ret_int ?_, rfl⟩
    all_goals rw [← HR'.out]
    all_goals first | (simp [*]; done) | (exfalso; simp_all; done)
  · rw [punct_one hk hlt, one_int] at hR
    have HR' : Hid _ := hR
    clear hR
    go_enter Try.func31, Try.ntmps31
    go_wp2
    all_goals go_ret
    all_goals refine ⟨ret_int ?_, rfl⟩
    all_goals rw [← HR'.out]
    all_goals first | (simp [*]; done) | (exfalso; simp_all; done)
end Go.Proofs.Qxb6601015a.SK
