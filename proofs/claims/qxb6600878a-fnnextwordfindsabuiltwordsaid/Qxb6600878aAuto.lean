/-
  THE WALK of zzAutomatonB1 (function 9).
-/
import Derived.Test.Qxb6600878aProg
import Derived.Test.Qxb6600878aPlain
import Derived.Test.Qxb6600878aNext
import Derived.WalkKit
import Derived.WalkSpells
import Derived.Outline
namespace Go.Proofs.Qxb6600878a.NW
open Go Go.RowKit

theorem drop_cons (s : ByteArray) (k : Nat) (h : k < s.size) : s.data.toList.drop k = s[k] :: s.data.toList.drop (k + 1) := by
  have hl : k < s.data.toList.length := by rw [← Lib.size_eq]; exact h
  rw [List.drop_eq_getElem_cons hl]; rfl

theorem byte_eq {c : UInt8} {n : UInt8} (h : c = n) : ((c.toNat : Int) == (n.toNat : Int)) = true := by rw [h]; simp
theorem byte_ne {c : UInt8} {n : UInt8} (h : ¬ c = n) : ((c.toNat : Int) == (n.toNat : Int)) = false := by
  rw [beq_eq_false_iff_ne]; intro e; exact h (UInt8.toNat_inj.1 (by omega))

set_option maxHeartbeats 1000000 in
theorem auto_any (s : ByteArray) (f : Nat) (w : World) (hs : s.size ≤ 1048576) (hf : f ≤ s.size) :
    Calls Try.prog 9 #[.string s, .int .i64 f] w fun e w' => e = .returned (.tuple #[.int .i64 (auto (s.data.toList.drop f) 0 0 false f).1, .int .i64 (auto (s.data.toList.drop f) 0 0 false f).2.1, .bool (auto (s.data.toList.drop f) 0 0 false f).2.2]) ∧ w' = w := by
  generalize hR : auto (s.data.toList.drop f) 0 0 false f = R
  have HR : Hid (auto (s.data.toList.drop f) 0 0 false f = R) := hR
  clear hR
  go_enter Try.func9, Try.ntmps9
  go_wp2
  go_loop [7, 8, 9, 10] (fun st a pe i => ∃ (k q x : Nat) (b : Bool), k ≤ s.size ∧ q ≤ 5 ∧ x ≤ s.size ∧ st = .int .i64 q ∧ a = .int .i64 x ∧ pe = .bool b ∧ (b = true → 1 ≤ k) ∧ i = .int .i64 k ∧ Hid (auto (s.data.toList.drop k) q x b k = R)) (fun _ _ _ i => s.size - (intOf i).toNat)
  case atStart => exact ⟨f, 0, 0, false, hf, by omega, by omega, rfl, rfl, rfl, by simp, rfl, HR⟩
  case round =>
    obtain ⟨k, q, x, b, hk, hq, hx, rfl, rfl, rfl, hb, rfl, H⟩ := hrel
    by_cases hlt : k < s.size
    ·
      have e1 : ((k + 1 : Nat) : Int) = (k : Int) + 1 := by omega
      have E1 : Hid (((k + 1 : Nat) : Int) = (k : Int) + 1) := e1
      clear e1
      have hq' : q = 0 ∨ q = 1 ∨ q = 2 ∨ q = 3 ∨ q = 4 ∨ q = 5 := by omega
      by_cases c63 : s[k] = 63
      · have c61 : ¬ s[k] = 61 := by rw [c63]; decide
        have t63 : ((s[k].toNat : Int) == 63) = true := byte_eq c63
        have t61 : ((s[k].toNat : Int) == 61) = false := byte_ne c61
        have n63 : ((s[k].toNat : Int) != 63) = false := by rw [c63]; rfl
        rcases hq' with rfl | rfl | rfl | rfl | rfl | rfl
        · cases b
          · have HN : Hid (auto (s.data.toList.drop (k + 1)) 0 x false ((k + 1 : Nat) : Int) = R) := by
              show auto (s.data.toList.drop (k + 1)) 0 x false ((k + 1 : Nat) : Int) = R
              rw [← H.out, drop_cons s k hlt, E1.out]
              simp [auto, c63]
            clear c63 c61
            go_wp2
            go_round
            case rel => exact ⟨k + 1, 0, x, false, by omega, by omega, by omega, by go_num, by go_num, rfl, by simp, by go_num, HN⟩
            case measure => simp [intOf]; omega
          · have hk1 : 1 ≤ k := hb rfl
            have HN : Hid (auto (s.data.toList.drop (k + 1)) 1 (k - 1 : Nat) false ((k + 1 : Nat) : Int) = R) := by
              show auto (s.data.toList.drop (k + 1)) 1 (k - 1 : Nat) false ((k + 1 : Nat) : Int) = R
              rw [← H.out, drop_cons s k hlt, E1.out, show ((k - 1 : Nat) : Int) = (k : Int) - 1 from by omega]
              simp [auto, c63]
            clear c63 c61
            go_wp2
            go_round
            case rel => exact ⟨k + 1, 1, k - 1, false, by omega, by omega, by omega, by go_num, by go_num, rfl, by simp, by go_num, HN⟩
            case measure => simp [intOf]; omega
        · have HN : Hid (auto (s.data.toList.drop (k + 1)) 2 x b ((k + 1 : Nat) : Int) = R) := by
            show auto (s.data.toList.drop (k + 1)) 2 x b ((k + 1 : Nat) : Int) = R
            rw [← H.out, drop_cons s k hlt, E1.out]
            simp [auto, c63]
          clear c63 c61
          go_wp2
          go_round
          case rel => exact ⟨k + 1, 2, x, b, by omega, by omega, by omega, by go_num, by go_num, rfl, by omega, by go_num, HN⟩
          case measure => simp [intOf]; omega
        · have HN : Hid (auto (s.data.toList.drop (k + 1)) 3 x b ((k + 1 : Nat) : Int) = R) := by
            show auto (s.data.toList.drop (k + 1)) 3 x b ((k + 1 : Nat) : Int) = R
            rw [← H.out, drop_cons s k hlt, E1.out]
            simp [auto]
          clear c63 c61
          go_wp2
          go_round
          case rel => exact ⟨k + 1, 3, x, b, by omega, by omega, by omega, by go_num, by go_num, rfl, by omega, by go_num, HN⟩
          case measure => simp [intOf]; omega
        · have HN : Hid (auto (s.data.toList.drop (k + 1)) 4 x b ((k + 1 : Nat) : Int) = R) := by
            show auto (s.data.toList.drop (k + 1)) 4 x b ((k + 1 : Nat) : Int) = R
            rw [← H.out, drop_cons s k hlt, E1.out]
            simp [auto, c63]
          clear c63 c61
          go_wp2
          go_round
          case rel => exact ⟨k + 1, 4, x, b, by omega, by omega, by omega, by go_num, by go_num, rfl, by omega, by go_num, HN⟩
          case measure => simp [intOf]; omega
        · have HN : Hid (auto (s.data.toList.drop (k + 1)) 5 x b ((k + 1 : Nat) : Int) = R) := by
            show auto (s.data.toList.drop (k + 1)) 5 x b ((k + 1 : Nat) : Int) = R
            rw [← H.out, drop_cons s k hlt, E1.out]
            simp [auto, c63]
          clear c63 c61
          go_wp2
          go_round
          case rel => exact ⟨k + 1, 5, x, b, by omega, by omega, by omega, by go_num, by go_num, rfl, by omega, by go_num, HN⟩
          case measure => simp [intOf]; omega
        · have HN : Hid (auto (s.data.toList.drop (k + 1)) 5 x b ((k + 1 : Nat) : Int) = R) := by
            show auto (s.data.toList.drop (k + 1)) 5 x b ((k + 1 : Nat) : Int) = R
            rw [← H.out, drop_cons s k hlt, E1.out]
            simp [auto, c63]
          clear c63 c61
          go_wp2
          go_round
          case rel => exact ⟨k + 1, 5, x, b, by omega, by omega, by omega, by go_num, by go_num, rfl, by omega, by go_num, HN⟩
          case measure => simp [intOf]; omega
      · have t63 : ((s[k].toNat : Int) == 63) = false := byte_ne c63
        have n63 : ((s[k].toNat : Int) != 63) = true := by rw [bne, t63]; rfl
        by_cases c61 : s[k] = 61
        · have t61 : ((s[k].toNat : Int) == 61) = true := byte_eq c61
          rcases hq' with rfl | rfl | rfl | rfl | rfl | rfl
          · cases b
            · have HN : Hid (auto (s.data.toList.drop (k + 1)) 0 x true ((k + 1 : Nat) : Int) = R) := by
                show auto (s.data.toList.drop (k + 1)) 0 x true ((k + 1 : Nat) : Int) = R
                rw [← H.out, drop_cons s k hlt, E1.out]
                simp [auto, c61]
              clear c63 c61
              go_wp2
              go_round
              case rel => exact ⟨k + 1, 0, x, true, by omega, by omega, by omega, by go_num, by go_num, rfl, by omega, by go_num, HN⟩
              case measure => simp [intOf]; omega
            · have HN : Hid (auto (s.data.toList.drop (k + 1)) 0 x true ((k + 1 : Nat) : Int) = R) := by
                show auto (s.data.toList.drop (k + 1)) 0 x true ((k + 1 : Nat) : Int) = R
                rw [← H.out, drop_cons s k hlt, E1.out]
                simp [auto, c61]
              clear c63 c61
              go_wp2
              go_round
              case rel => exact ⟨k + 1, 0, x, true, by omega, by omega, by omega, by go_num, by go_num, rfl, by omega, by go_num, HN⟩
              case measure => simp [intOf]; omega
          · have HN : Hid (auto (s.data.toList.drop (k + 1)) 1 x b ((k + 1 : Nat) : Int) = R) := by
              show auto (s.data.toList.drop (k + 1)) 1 x b ((k + 1 : Nat) : Int) = R
              rw [← H.out, drop_cons s k hlt, E1.out]
              simp [auto, c63]
            clear c63 c61
            go_wp2
            go_round
            case rel => exact ⟨k + 1, 1, x, b, by omega, by omega, by omega, by go_num, by go_num, rfl, by omega, by go_num, HN⟩
            case measure => simp [intOf]; omega
          · have HN : Hid (auto (s.data.toList.drop (k + 1)) 3 x b ((k + 1 : Nat) : Int) = R) := by
              show auto (s.data.toList.drop (k + 1)) 3 x b ((k + 1 : Nat) : Int) = R
              rw [← H.out, drop_cons s k hlt, E1.out]
              simp [auto]
            clear c63 c61
            go_wp2
            go_round
            case rel => exact ⟨k + 1, 3, x, b, by omega, by omega, by omega, by go_num, by go_num, rfl, by omega, by go_num, HN⟩
            case measure => simp [intOf]; omega
          · have HN : Hid (R = (0, 0, false)) := by
              show R = (0, 0, false)
              rw [← H.out, drop_cons s k hlt]
              simp [auto, c63]
            clear c63 c61
            go_wp2
            go_ret3
            exact ⟨ret3 HN.out, rfl⟩
          · have HN : Hid (auto (s.data.toList.drop (k + 1)) 4 x b ((k + 1 : Nat) : Int) = R) := by
              show auto (s.data.toList.drop (k + 1)) 4 x b ((k + 1 : Nat) : Int) = R
              rw [← H.out, drop_cons s k hlt, E1.out]
              simp [auto, c63]
            clear c63 c61
            go_wp2
            go_round
            case rel => exact ⟨k + 1, 4, x, b, by omega, by omega, by omega, by go_num, by go_num, rfl, by omega, by go_num, HN⟩
            case measure => simp [intOf]; omega
          · have HN : Hid (R = ((x : Int), (k : Int) + 1, true)) := by
              show R = ((x : Int), (k : Int) + 1, true)
              rw [← H.out, drop_cons s k hlt]
              simp [auto, c61]
            clear c63 c61
            go_wp2
            go_ret3
            exact ⟨ret3 HN.out, rfl⟩
        · have t61 : ((s[k].toNat : Int) == 61) = false := byte_ne c61
          rcases hq' with rfl | rfl | rfl | rfl | rfl | rfl
          · cases b
            · have HN : Hid (auto (s.data.toList.drop (k + 1)) 0 x false ((k + 1 : Nat) : Int) = R) := by
                show auto (s.data.toList.drop (k + 1)) 0 x false ((k + 1 : Nat) : Int) = R
                rw [← H.out, drop_cons s k hlt, E1.out]
                simp [auto, beq_eq_false_iff_ne.2 c61]
              clear c63 c61
              go_wp2
              go_round
              case rel => exact ⟨k + 1, 0, x, false, by omega, by omega, by omega, by go_num, by go_num, rfl, by simp, by go_num, HN⟩
              case measure => simp [intOf]; omega
            · have HN : Hid (auto (s.data.toList.drop (k + 1)) 0 x false ((k + 1 : Nat) : Int) = R) := by
                show auto (s.data.toList.drop (k + 1)) 0 x false ((k + 1 : Nat) : Int) = R
                rw [← H.out, drop_cons s k hlt, E1.out]
                simp [auto, beq_eq_false_iff_ne.2 c61, c63]
              clear c63 c61
              go_wp2
              go_round
              case rel => exact ⟨k + 1, 0, x, false, by omega, by omega, by omega, by go_num, by go_num, rfl, by simp, by go_num, HN⟩
              case measure => simp [intOf]; omega
          · have HN : Hid (auto (s.data.toList.drop (k + 1)) 1 x b ((k + 1 : Nat) : Int) = R) := by
              show auto (s.data.toList.drop (k + 1)) 1 x b ((k + 1 : Nat) : Int) = R
              rw [← H.out, drop_cons s k hlt, E1.out]
              simp [auto, c63]
            clear c63 c61
            go_wp2
            go_round
            case rel => exact ⟨k + 1, 1, x, b, by omega, by omega, by omega, by go_num, by go_num, rfl, by omega, by go_num, HN⟩
            case measure => simp [intOf]; omega
          · have HN : Hid (auto (s.data.toList.drop (k + 1)) 3 x b ((k + 1 : Nat) : Int) = R) := by
              show auto (s.data.toList.drop (k + 1)) 3 x b ((k + 1 : Nat) : Int) = R
              rw [← H.out, drop_cons s k hlt, E1.out]
              simp [auto]
            clear c63 c61
            go_wp2
            go_round
            case rel => exact ⟨k + 1, 3, x, b, by omega, by omega, by omega, by go_num, by go_num, rfl, by omega, by go_num, HN⟩
            case measure => simp [intOf]; omega
          · have HN : Hid (R = (0, 0, false)) := by
              show R = (0, 0, false)
              rw [← H.out, drop_cons s k hlt]
              simp [auto, c63]
            clear c63 c61
            go_wp2
            go_ret3
            exact ⟨ret3 HN.out, rfl⟩
          · have HN : Hid (auto (s.data.toList.drop (k + 1)) 4 x b ((k + 1 : Nat) : Int) = R) := by
              show auto (s.data.toList.drop (k + 1)) 4 x b ((k + 1 : Nat) : Int) = R
              rw [← H.out, drop_cons s k hlt, E1.out]
              simp [auto, c63]
            clear c63 c61
            go_wp2
            go_round
            case rel => exact ⟨k + 1, 4, x, b, by omega, by omega, by omega, by go_num, by go_num, rfl, by omega, by go_num, HN⟩
            case measure => simp [intOf]; omega
          · have HN : Hid (auto (s.data.toList.drop (k + 1)) 4 x b ((k + 1 : Nat) : Int) = R) := by
              show auto (s.data.toList.drop (k + 1)) 4 x b ((k + 1 : Nat) : Int) = R
              rw [← H.out, drop_cons s k hlt, E1.out]
              simp [auto, c63, c61]
            clear c63 c61
            go_wp2
            go_round
            case rel => exact ⟨k + 1, 4, x, b, by omega, by omega, by omega, by go_num, by go_num, rfl, by omega, by go_num, HN⟩
            case measure => simp [intOf]; omega
    · go_wp2
      go_ret3
      refine ⟨ret3 ?_, rfl⟩
      rw [← H.out, List.drop_eq_nil_of_le (by rw [← Lib.size_eq]; omega)]
      simp [auto]
end Go.Proofs.Qxb6600878a.NW
