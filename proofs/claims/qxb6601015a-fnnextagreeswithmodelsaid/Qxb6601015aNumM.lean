/-
  THE WALKS of the token models: zzSynNumberModel (23), zzSynStringModel (30), zzSynPunctLen (31).
-/
import Derived.Test.Qxb6601015aScan
namespace Go.Proofs.Qxb6601015a.SK
open Go Go.RowKit

theorem byte_or {c a d : UInt8} (h : c = a ∨ c = d) : (c.toNat : Int) = (a.toNat : Int) ∨ (c.toNat : Int) = (d.toNat : Int) := by
  rcases h with rfl | rfl
  · exact Or.inl rfl
  · exact Or.inr rfl

theorem ret2 {a : Int} {c : Bool} {r : Nat × Bool} (h : ((r.1 : Int), r.2) = (a, c)) :
    Ending.returned (.tuple #[.int .i64 a, .bool c]) = .returned (.tuple #[.int .i64 (r.1 : Nat), .bool r.2]) := by
  obtain ⟨rfl, rfl⟩ := Prod.mk.inj h; rfl

theorem nm1 {s : ByteArray} {k e st : Nat} {dec : Bool} {R : Nat × Bool} (hlt : k < s.size) (H : numA (s.data.toList.drop k) st k e dec = R) (hn : nxt st s[k] = some 1) : numA (s.data.toList.drop (k + 1)) 1 (k + 1) (k + 1) false = R := by
  rw [← H, drop_cons s k hlt, step1 hn]
theorem nm2 {s : ByteArray} {k e st : Nat} {dec : Bool} {R : Nat × Bool} (hlt : k < s.size) (H : numA (s.data.toList.drop k) st k e dec = R) (hn : nxt st s[k] = some 2) : numA (s.data.toList.drop (k + 1)) 2 (k + 1) e dec = R := by
  rw [← H, drop_cons s k hlt, step2 hn]
theorem nm3 {s : ByteArray} {k e st : Nat} {dec : Bool} {R : Nat × Bool} (hlt : k < s.size) (H : numA (s.data.toList.drop k) st k e dec = R) (hn : nxt st s[k] = some 3) : numA (s.data.toList.drop (k + 1)) 3 (k + 1) (k + 1) true = R := by
  rw [← H, drop_cons s k hlt, step3 hn]
theorem nm4 {s : ByteArray} {k e st : Nat} {dec : Bool} {R : Nat × Bool} (hlt : k < s.size) (H : numA (s.data.toList.drop k) st k e dec = R) (hn : nxt st s[k] = some 4) : numA (s.data.toList.drop (k + 1)) 4 (k + 1) (k + 1) true = R := by
  rw [← H, drop_cons s k hlt, step4 hn]
theorem nm5 {s : ByteArray} {k e st : Nat} {dec : Bool} {R : Nat × Bool} (hlt : k < s.size) (H : numA (s.data.toList.drop k) st k e dec = R) (hn : nxt st s[k] = some 5) : numA (s.data.toList.drop (k + 1)) 5 (k + 1) e dec = R := by
  rw [← H, drop_cons s k hlt, step5 hn]
theorem nm6 {s : ByteArray} {k e st : Nat} {dec : Bool} {R : Nat × Bool} (hlt : k < s.size) (H : numA (s.data.toList.drop k) st k e dec = R) (hn : nxt st s[k] = some 6) : numA (s.data.toList.drop (k + 1)) 6 (k + 1) e dec = R := by
  rw [← H, drop_cons s k hlt, step6 hn]
theorem nm7 {s : ByteArray} {k e st : Nat} {dec : Bool} {R : Nat × Bool} (hlt : k < s.size) (H : numA (s.data.toList.drop k) st k e dec = R) (hn : nxt st s[k] = some 7) : numA (s.data.toList.drop (k + 1)) 7 (k + 1) (k + 1) true = R := by
  rw [← H, drop_cons s k hlt, step7 hn]
theorem nmN {s : ByteArray} {k e st : Nat} {dec : Bool} {R : Nat × Bool} (hlt : k < s.size) (H : numA (s.data.toList.drop k) st k e dec = R) (hn : nxt st s[k] = none) : R = (e, dec) := by
  rw [← H, drop_cons s k hlt, stepN hn]
theorem nmE {s : ByteArray} {k e st : Nat} {dec : Bool} {R : Nat × Bool} (hn : ¬ k < s.size) (H : numA (s.data.toList.drop k) st k e dec = R) : R = (e, dec) := by
  rw [← H, drop_nil s k hn]; rfl

set_option maxRecDepth 100000 in
set_option maxHeartbeats 4000000 in
theorem numberModel_any (s : ByteArray) (p : Nat) (w : World) (hs : s.size ≤ 1048576) (hp : p ≤ s.size) :
    Calls Try.prog 23 #[.string s, .int .i64 p] w fun e w' => e = .returned (.tuple #[.int .i64 ((numA (s.data.toList.drop p) 0 p p false).1 : Nat), .bool (numA (s.data.toList.drop p) 0 p p false).2]) ∧ w' = w := by
  generalize hR : numA (s.data.toList.drop p) 0 p p false = R
  have HR : Hid (numA (s.data.toList.drop p) 0 p p false = R) := hR
  clear hR
  go_enter Try.func23, Try.ntmps23
  go_wp2
  go_loop [6, 7, 8, 9] (fun stv ev dv iv => ∃ (st k e : Nat) (dec : Bool), st ≤ 7 ∧ k ≤ s.size ∧ e ≤ s.size ∧ stv = .int .i64 st ∧ ev = .int .i64 e ∧ dv = .bool dec ∧ iv = .int .i64 k ∧ Hid (numA (s.data.toList.drop k) st k e dec = R)) (fun _ _ _ i => s.size - (intOf i).toNat)
  case atStart => exact ⟨0, p, p, false, by omega, hp, hp, rfl, rfl, rfl, rfl, HR⟩
  case round =>
    obtain ⟨st, k, e, dec, hst, hk, he, rfl, rfl, rfl, rfl, H⟩ := hrel
    by_cases hlt : k < s.size
    · have hst' : st = 0 ∨ st = 1 ∨ st = 2 ∨ st = 3 ∨ st = 4 ∨ st = 5 ∨ st = 6 ∨ st = 7 := by omega
      rcases hst' with rfl | rfl | rfl | rfl | rfl | rfl | rfl | rfl
      · cases hd : dig s[k] with
        | true =>
          have HN : Hid (numA (s.data.toList.drop (k + 1)) 1 (k + 1) (k + 1) false = R) := nm1 hlt H.out (by simp [nxt, hd])
          go_wp2_with (go_at_call 25; refine (synDigit_any _ _).mono ?_; rintro e w' ⟨rfl, rfl⟩; rw [hd])
          go_round
          case rel => exact ⟨1, k + 1, k + 1, false, by omega, by omega, by omega, by go_num, by go_num, rfl, by go_num, HN⟩
          case measure => simp [intOf]; omega
        | false =>
          by_cases c46 : s[k] = 46
          · have t46 : ((s[k].toNat : Int) == 46) = true := byte_eq c46
            have HN : Hid (numA (s.data.toList.drop (k + 1)) 2 (k + 1) (e) dec = R) := nm2 hlt H.out (by rw [c46]; decide)
            clear c46
            go_wp2_with (go_at_call 25; refine (synDigit_any _ _).mono ?_; rintro e w' ⟨rfl, rfl⟩; rw [hd])
            go_round
            case rel => exact ⟨2, k + 1, e, dec, by omega, by omega, by omega, by go_num, by go_num, rfl, by go_num, HN⟩
            case measure => simp [intOf]; omega
          · have t46 : ((s[k].toNat : Int) == 46) = false := byte_ne c46
            have HN : Hid (R = (e, dec)) := nmN hlt H.out (by simp [nxt, hd, c46])
            clear c46
            go_wp2_with (go_at_call 25; refine (synDigit_any _ _).mono ?_; rintro e w' ⟨rfl, rfl⟩; rw [hd])
            all_goals go_ret2
            all_goals exact ⟨ret2 (by rw [HN.out]), rfl⟩
      · cases hd : dig s[k] with
        | true =>
          have HN : Hid (numA (s.data.toList.drop (k + 1)) 1 (k + 1) (k + 1) false = R) := nm1 hlt H.out (by simp [nxt, hd])
          go_wp2_with (go_at_call 25; refine (synDigit_any _ _).mono ?_; rintro e w' ⟨rfl, rfl⟩; rw [hd])
          go_round
          case rel => exact ⟨1, k + 1, k + 1, false, by omega, by omega, by omega, by go_num, by go_num, rfl, by go_num, HN⟩
          case measure => simp [intOf]; omega
        | false =>
          by_cases c46 : s[k] = 46
          · have t46 : ((s[k].toNat : Int) == 46) = true := byte_eq c46
            have t101 : ((s[k].toNat : Int) == 101) = false := by rw [c46]; rfl
            have t69 : ((s[k].toNat : Int) == 69) = false := by rw [c46]; rfl
            have HN : Hid (numA (s.data.toList.drop (k + 1)) 3 (k + 1) (k + 1) true = R) := nm3 hlt H.out (by rw [c46]; decide)
            clear c46
            go_wp2_with (go_at_call 25; refine (synDigit_any _ _).mono ?_; rintro e w' ⟨rfl, rfl⟩; rw [hd])
            go_round
            case rel => exact ⟨3, k + 1, k + 1, true, by omega, by omega, by omega, by go_num, by go_num, rfl, by go_num, HN⟩
            case measure => simp [intOf]; omega
          · have t46 : ((s[k].toNat : Int) == 46) = false := byte_ne c46
            by_cases c101 : s[k] = 101
            · have t101 : ((s[k].toNat : Int) == 101) = true := byte_eq c101
              have t69 : ((s[k].toNat : Int) == 69) = false := by rw [c101]; rfl
              have HN : Hid (numA (s.data.toList.drop (k + 1)) 5 (k + 1) (e) dec = R) := nm5 hlt H.out (by rw [c101]; decide)
              clear c101
              go_wp2_with (go_at_call 25; refine (synDigit_any _ _).mono ?_; rintro e w' ⟨rfl, rfl⟩; rw [hd])
              go_round
              case rel => exact ⟨5, k + 1, e, dec, by omega, by omega, by omega, by go_num, by go_num, rfl, by go_num, HN⟩
              case measure => simp [intOf]; omega
            · have t101 : ((s[k].toNat : Int) == 101) = false := byte_ne c101
              by_cases c69 : s[k] = 69
              · have t69 : ((s[k].toNat : Int) == 69) = true := byte_eq c69
                have HN : Hid (numA (s.data.toList.drop (k + 1)) 5 (k + 1) (e) dec = R) := nm5 hlt H.out (by rw [c69]; decide)
                clear c69
                go_wp2_with (go_at_call 25; refine (synDigit_any _ _).mono ?_; rintro e w' ⟨rfl, rfl⟩; rw [hd])
                go_round
                case rel => exact ⟨5, k + 1, e, dec, by omega, by omega, by omega, by go_num, by go_num, rfl, by go_num, HN⟩
                case measure => simp [intOf]; omega
              · have t69 : ((s[k].toNat : Int) == 69) = false := byte_ne c69
                have HN : Hid (R = (e, dec)) := nmN hlt H.out (by simp [nxt, hd, c46, c101, c69])
                clear c46 c101 c69
                go_wp2_with (go_at_call 25; refine (synDigit_any _ _).mono ?_; rintro e w' ⟨rfl, rfl⟩; rw [hd])
                all_goals go_ret2
                all_goals exact ⟨ret2 (by rw [HN.out]), rfl⟩
      · cases hd : dig s[k] with
        | true =>
          have HN : Hid (numA (s.data.toList.drop (k + 1)) 4 (k + 1) (k + 1) true = R) := nm4 hlt H.out (by simp [nxt, hd])
          go_wp2_with (go_at_call 25; refine (synDigit_any _ _).mono ?_; rintro e w' ⟨rfl, rfl⟩; rw [hd])
          go_round
          case rel => exact ⟨4, k + 1, k + 1, true, by omega, by omega, by omega, by go_num, by go_num, rfl, by go_num, HN⟩
          case measure => simp [intOf]; omega
        | false =>
          have HN : Hid (R = (e, dec)) := nmN hlt H.out (by simp [nxt, hd])
          go_wp2_with (go_at_call 25; refine (synDigit_any _ _).mono ?_; rintro e w' ⟨rfl, rfl⟩; rw [hd])
          all_goals go_ret2
          all_goals exact ⟨ret2 (by rw [HN.out]), rfl⟩
      · cases hd : dig s[k] with
        | true =>
          have HN : Hid (numA (s.data.toList.drop (k + 1)) 4 (k + 1) (k + 1) true = R) := nm4 hlt H.out (by simp [nxt, hd])
          go_wp2_with (go_at_call 25; refine (synDigit_any _ _).mono ?_; rintro e w' ⟨rfl, rfl⟩; rw [hd])
          go_round
          case rel => exact ⟨4, k + 1, k + 1, true, by omega, by omega, by omega, by go_num, by go_num, rfl, by go_num, HN⟩
          case measure => simp [intOf]; omega
        | false =>
          by_cases c101 : s[k] = 101
          · have t101 : ((s[k].toNat : Int) == 101) = true := byte_eq c101
            have t69 : ((s[k].toNat : Int) == 69) = false := by rw [c101]; rfl
            have HN : Hid (numA (s.data.toList.drop (k + 1)) 5 (k + 1) (e) dec = R) := nm5 hlt H.out (by rw [c101]; decide)
            clear c101
            go_wp2_with (go_at_call 25; refine (synDigit_any _ _).mono ?_; rintro e w' ⟨rfl, rfl⟩; rw [hd])
            go_round
            case rel => exact ⟨5, k + 1, e, dec, by omega, by omega, by omega, by go_num, by go_num, rfl, by go_num, HN⟩
            case measure => simp [intOf]; omega
          · have t101 : ((s[k].toNat : Int) == 101) = false := byte_ne c101
            by_cases c69 : s[k] = 69
            · have t69 : ((s[k].toNat : Int) == 69) = true := byte_eq c69
              have HN : Hid (numA (s.data.toList.drop (k + 1)) 5 (k + 1) (e) dec = R) := nm5 hlt H.out (by rw [c69]; decide)
              clear c69
              go_wp2_with (go_at_call 25; refine (synDigit_any _ _).mono ?_; rintro e w' ⟨rfl, rfl⟩; rw [hd])
              go_round
              case rel => exact ⟨5, k + 1, e, dec, by omega, by omega, by omega, by go_num, by go_num, rfl, by go_num, HN⟩
              case measure => simp [intOf]; omega
            · have t69 : ((s[k].toNat : Int) == 69) = false := byte_ne c69
              have HN : Hid (R = (e, dec)) := nmN hlt H.out (by simp [nxt, hd, c101, c69])
              clear c101 c69
              go_wp2_with (go_at_call 25; refine (synDigit_any _ _).mono ?_; rintro e w' ⟨rfl, rfl⟩; rw [hd])
              all_goals go_ret2
              all_goals exact ⟨ret2 (by rw [HN.out]), rfl⟩
      · cases hd : dig s[k] with
        | true =>
          have HN : Hid (numA (s.data.toList.drop (k + 1)) 4 (k + 1) (k + 1) true = R) := nm4 hlt H.out (by simp [nxt, hd])
          go_wp2_with (go_at_call 25; refine (synDigit_any _ _).mono ?_; rintro e w' ⟨rfl, rfl⟩; rw [hd])
          go_round
          case rel => exact ⟨4, k + 1, k + 1, true, by omega, by omega, by omega, by go_num, by go_num, rfl, by go_num, HN⟩
          case measure => simp [intOf]; omega
        | false =>
          by_cases c101 : s[k] = 101
          · have t101 : ((s[k].toNat : Int) == 101) = true := byte_eq c101
            have t69 : ((s[k].toNat : Int) == 69) = false := by rw [c101]; rfl
            have HN : Hid (numA (s.data.toList.drop (k + 1)) 5 (k + 1) (e) dec = R) := nm5 hlt H.out (by rw [c101]; decide)
            clear c101
            go_wp2_with (go_at_call 25; refine (synDigit_any _ _).mono ?_; rintro e w' ⟨rfl, rfl⟩; rw [hd])
            go_round
            case rel => exact ⟨5, k + 1, e, dec, by omega, by omega, by omega, by go_num, by go_num, rfl, by go_num, HN⟩
            case measure => simp [intOf]; omega
          · have t101 : ((s[k].toNat : Int) == 101) = false := byte_ne c101
            by_cases c69 : s[k] = 69
            · have t69 : ((s[k].toNat : Int) == 69) = true := byte_eq c69
              have HN : Hid (numA (s.data.toList.drop (k + 1)) 5 (k + 1) (e) dec = R) := nm5 hlt H.out (by rw [c69]; decide)
              clear c69
              go_wp2_with (go_at_call 25; refine (synDigit_any _ _).mono ?_; rintro e w' ⟨rfl, rfl⟩; rw [hd])
              go_round
              case rel => exact ⟨5, k + 1, e, dec, by omega, by omega, by omega, by go_num, by go_num, rfl, by go_num, HN⟩
              case measure => simp [intOf]; omega
            · have t69 : ((s[k].toNat : Int) == 69) = false := byte_ne c69
              have HN : Hid (R = (e, dec)) := nmN hlt H.out (by simp [nxt, hd, c101, c69])
              clear c101 c69
              go_wp2_with (go_at_call 25; refine (synDigit_any _ _).mono ?_; rintro e w' ⟨rfl, rfl⟩; rw [hd])
              all_goals go_ret2
              all_goals exact ⟨ret2 (by rw [HN.out]), rfl⟩
      · cases hd : dig s[k] with
        | true =>
          have HN : Hid (numA (s.data.toList.drop (k + 1)) 7 (k + 1) (k + 1) true = R) := nm7 hlt H.out (by simp [nxt, hd])
          go_wp2_with (go_at_call 25; refine (synDigit_any _ _).mono ?_; rintro e w' ⟨rfl, rfl⟩; rw [hd])
          go_round
          case rel => exact ⟨7, k + 1, k + 1, true, by omega, by omega, by omega, by go_num, by go_num, rfl, by go_num, HN⟩
          case measure => simp [intOf]; omega
        | false =>
          by_cases c43 : s[k] = 43
          · have t43 : ((s[k].toNat : Int) == 43) = true := byte_eq c43
            have t45 : ((s[k].toNat : Int) == 45) = false := by rw [c43]; rfl
            have HN : Hid (numA (s.data.toList.drop (k + 1)) 6 (k + 1) (e) dec = R) := nm6 hlt H.out (by rw [c43]; decide)
            clear c43
            go_wp2_with (go_at_call 25; refine (synDigit_any _ _).mono ?_; rintro e w' ⟨rfl, rfl⟩; rw [hd])
            go_round
            case rel => exact ⟨6, k + 1, e, dec, by omega, by omega, by omega, by go_num, by go_num, rfl, by go_num, HN⟩
            case measure => simp [intOf]; omega
          · have t43 : ((s[k].toNat : Int) == 43) = false := byte_ne c43
            by_cases c45 : s[k] = 45
            · have t45 : ((s[k].toNat : Int) == 45) = true := byte_eq c45
              have HN : Hid (numA (s.data.toList.drop (k + 1)) 6 (k + 1) (e) dec = R) := nm6 hlt H.out (by rw [c45]; decide)
              clear c45
              go_wp2_with (go_at_call 25; refine (synDigit_any _ _).mono ?_; rintro e w' ⟨rfl, rfl⟩; rw [hd])
              go_round
              case rel => exact ⟨6, k + 1, e, dec, by omega, by omega, by omega, by go_num, by go_num, rfl, by go_num, HN⟩
              case measure => simp [intOf]; omega
            · have t45 : ((s[k].toNat : Int) == 45) = false := byte_ne c45
              have HN : Hid (R = (e, dec)) := nmN hlt H.out (by simp [nxt, hd, c43, c45])
              clear c43 c45
              go_wp2_with (go_at_call 25; refine (synDigit_any _ _).mono ?_; rintro e w' ⟨rfl, rfl⟩; rw [hd])
              all_goals go_ret2
              all_goals exact ⟨ret2 (by rw [HN.out]), rfl⟩
      · cases hd : dig s[k] with
        | true =>
          have HN : Hid (numA (s.data.toList.drop (k + 1)) 7 (k + 1) (k + 1) true = R) := nm7 hlt H.out (by simp [nxt, hd])
          go_wp2_with (go_at_call 25; refine (synDigit_any _ _).mono ?_; rintro e w' ⟨rfl, rfl⟩; rw [hd])
          go_round
          case rel => exact ⟨7, k + 1, k + 1, true, by omega, by omega, by omega, by go_num, by go_num, rfl, by go_num, HN⟩
          case measure => simp [intOf]; omega
        | false =>
          have HN : Hid (R = (e, dec)) := nmN hlt H.out (by simp [nxt, hd])
          go_wp2_with (go_at_call 25; refine (synDigit_any _ _).mono ?_; rintro e w' ⟨rfl, rfl⟩; rw [hd])
          all_goals go_ret2
          all_goals exact ⟨ret2 (by rw [HN.out]), rfl⟩
      · cases hd : dig s[k] with
        | true =>
          have HN : Hid (numA (s.data.toList.drop (k + 1)) 7 (k + 1) (k + 1) true = R) := nm7 hlt H.out (by simp [nxt, hd])
          go_wp2_with (go_at_call 25; refine (synDigit_any _ _).mono ?_; rintro e w' ⟨rfl, rfl⟩; rw [hd])
          go_round
          case rel => exact ⟨7, k + 1, k + 1, true, by omega, by omega, by omega, by go_num, by go_num, rfl, by go_num, HN⟩
          case measure => simp [intOf]; omega
        | false =>
          have HN : Hid (R = (e, dec)) := nmN hlt H.out (by simp [nxt, hd])
          go_wp2_with (go_at_call 25; refine (synDigit_any _ _).mono ?_; rintro e w' ⟨rfl, rfl⟩; rw [hd])
          all_goals go_ret2
          all_goals exact ⟨ret2 (by rw [HN.out]), rfl⟩
    · have HN : Hid (R = (e, dec)) := nmE hlt H.out
      go_wp2
      go_ret2
      exact ⟨ret2 (by rw [HN.out]), rfl⟩
end Go.Proofs.Qxb6601015a.SK
