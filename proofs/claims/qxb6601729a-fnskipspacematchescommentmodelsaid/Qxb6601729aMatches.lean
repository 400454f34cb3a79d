/-
  THE WALKS of the model skipSpaceModelTomlB1 (15) and of the law FnSkipSpaceMatchesCommentModel (5).
-/
import Derived.Test.Qxb6601729aSkip
namespace Go.Proofs.Qxb6601729a.SK
open Go Go.RowKit

theorem mo_nl {s : ByteArray} {k R : Nat} {cm : Bool} (hlt : k < s.size) (H : mach (s.data.toList.drop k) cm k = R) (hc : s[k] = 10) : mach (s.data.toList.drop (k + 1)) false (k + 1) = R := by
  rw [← H, drop_cons s k hlt, hc, mach, if_pos rfl]
theorem mo_in {s : ByteArray} {k R : Nat} (hlt : k < s.size) (H : mach (s.data.toList.drop k) true k = R) (hc : ¬ s[k] = 10) : mach (s.data.toList.drop (k + 1)) true (k + 1) = R := by
  rw [← H, drop_cons s k hlt, mach, if_neg hc, if_pos rfl]
theorem mo_hash {s : ByteArray} {k R : Nat} (hlt : k < s.size) (H : mach (s.data.toList.drop k) false k = R) (hc : s[k] = 35) : mach (s.data.toList.drop (k + 1)) true (k + 1) = R := by
  rw [← H, drop_cons s k hlt, hc, mach, if_neg (by decide), if_neg (by decide), if_pos rfl]

set_option maxRecDepth 100000 in
set_option maxHeartbeats 1000000 in
theorem model_any (s : ByteArray) (p : Nat) (w : World) (hs : s.size ≤ 1048576) (R : Nat) (hR : mach (s.data.toList.drop p) false p = R) :
    Calls Try.prog 15 #[.string s, .int .i64 p] w fun e w' => e = .returned (.int .i64 R) ∧ w' = w := by
  have HR : Hid (mach (s.data.toList.drop p) false p = R) := hR
  clear hR
  by_cases hp : p < s.size
  · go_enter Try.func15, Try.ntmps15
    go_wp2
    go_loop [6, 7] (fun cmv iv => ∃ (k : Nat) (cm : Bool), k ≤ s.size ∧ cmv = .bool cm ∧ iv = .int .i64 k ∧ Hid (mach (s.data.toList.drop k) cm k = R)) (fun _ i => s.size - (intOf i).toNat)
    case atStart => exact ⟨p, false, by omega, rfl, rfl, HR⟩
    case round =>
      obtain ⟨k, cm, hk, rfl, rfl, H⟩ := hrel
      by_cases hlt : k < s.size
      · by_cases c10 : s[k] = 10
        · have h10 : ((s[k].toNat : Int) == 10) = true := byte_eq (n := 10) c10
          have HN : Hid (mach (s.data.toList.drop (k + 1)) false (k + 1) = R) := mo_nl hlt H.out c10
          clear c10
          go_wp2
          go_round
          case rel => exact ⟨k + 1, false, by omega, rfl, by go_num, HN⟩
          case measure => simp [intOf]; omega
        have h10 : ((s[k].toNat : Int) == 10) = false := byte_ne (n := 10) c10
        cases cm
        · by_cases c35 : s[k] = 35
          · have h35 : ((s[k].toNat : Int) == 35) = true := byte_eq (n := 35) c35
            have HN : Hid (mach (s.data.toList.drop (k + 1)) true (k + 1) = R) := mo_hash hlt H.out c35
            clear c10 c35
            go_wp2
            go_round
            case rel => exact ⟨k + 1, true, by omega, rfl, by go_num, HN⟩
            case measure => simp [intOf]; omega
          have h35 : ((s[k].toNat : Int) == 35) = false := byte_ne (n := 35) c35
          by_cases c32 : s[k] = 32
          · have h32 : ((s[k].toNat : Int) == 32) = true := byte_eq (n := 32) c32
            have HN : Hid (mach (s.data.toList.drop (k + 1)) false (k + 1) = R) := mm_blank hlt H.out (.inl c32)
            clear c32
            go_wp2
            go_round
            case rel => exact ⟨k + 1, false, by omega, rfl, by go_num, HN⟩
            case measure => simp [intOf]; omega
          have h32 : ((s[k].toNat : Int) == 32) = false := byte_ne (n := 32) c32
          by_cases c9 : s[k] = 9
          · have h9 : ((s[k].toNat : Int) == 9) = true := byte_eq (n := 9) c9
            have HN : Hid (mach (s.data.toList.drop (k + 1)) false (k + 1) = R) := mm_blank hlt H.out (.inr (.inl c9))
            clear c9
            go_wp2
            go_round
            case rel => exact ⟨k + 1, false, by omega, rfl, by go_num, HN⟩
            case measure => simp [intOf]; omega
          have h9 : ((s[k].toNat : Int) == 9) = false := byte_ne (n := 9) c9
          by_cases c13 : s[k] = 13
          · have h13 : ((s[k].toNat : Int) == 13) = true := byte_eq (n := 13) c13
            have HN : Hid (mach (s.data.toList.drop (k + 1)) false (k + 1) = R) := mm_blank hlt H.out (.inr (.inr (.inl c13)))
            clear c13
            go_wp2
            go_round
            case rel => exact ⟨k + 1, false, by omega, rfl, by go_num, HN⟩
            case measure => simp [intOf]; omega
          have h13 : ((s[k].toNat : Int) == 13) = false := byte_ne (n := 13) c13
          have HN : Hid (k = R) := mm_stop hlt H.out ⟨c32, c9, c13, c10, c35⟩
          clear c32 c9 c13 c10 c35
          go_wp2
          go_ret
          exact ⟨HN.out ▸ rfl, rfl⟩
        · have HN : Hid (mach (s.data.toList.drop (k + 1)) true (k + 1) = R) := mo_in hlt H.out c10
          clear c10
          go_wp2
          go_round
          case rel => exact ⟨k + 1, true, by omega, rfl, by go_num, HN⟩
          case measure => simp [intOf]; omega
      · have HN : Hid (k = R) := mm_end hlt H.out
        have hk' : k = s.size := by omega
        have HN' : Hid (s.size = R) := hk' ▸ HN
        go_wp2
        go_ret
        exact ⟨HN'.out ▸ rfl, rfl⟩
  · have HN : Hid (p = R) := mm_end hp HR.out
    go_enter Try.func15, Try.ntmps15
    go_wp2
    go_ret
    exact ⟨HN.out ▸ rfl, rfl⟩

set_option maxHeartbeats 400000 in
theorem matches_any (a0 : ByteArray) (a1 : Int) (w : World) :
    Calls Try.prog 5 #[.string a0, .int .i64 a1] w fun e w' => e = .returned (.bool true) ∧ Below w.heap.size w w' := by
  by_cases hs : a0.size ≤ 1048576
  · by_cases hlo : a1 < 0
    · go_enter Try.func5, Try.ntmps5
      go_wp2
      go_ret
      exact ⟨rfl, Below.refl _ _⟩
    obtain ⟨p, rfl⟩ := Int.eq_ofNat_of_zero_le (Int.not_lt.1 hlo)
    clear hlo
    obtain ⟨R, hR⟩ : ∃ R, mach (a0.data.toList.drop p) false p = R := ⟨_, rfl⟩
    have HR : Hid (mach (a0.data.toList.drop p) false p = R) := hR
    clear hR
    go_enter Try.func5, Try.ntmps5
    go_wp2_with (first
      | (go_at_call 13; go_in)
      | (go_at_call 14; refine (zzSkipSpace_any a0 p _ hs R HR.out).mono ?_; rintro e w' ⟨rfl, hB⟩)
      | (go_at_call 15; refine (model_any a0 p _ hs R HR.out).mono ?_; rintro e w'' ⟨rfl, rfl⟩))
    go_ret
    exact ⟨rfl, hB⟩
  · go_enter Try.func5, Try.ntmps5
    go_wp2
    go_ret
    exact ⟨rfl, Below.refl _ _⟩
end Go.Proofs.Qxb6601729a.SK
