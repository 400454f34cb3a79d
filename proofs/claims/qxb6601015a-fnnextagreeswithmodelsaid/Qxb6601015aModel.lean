/-
  THE WALK of zzSynSkipModel (16).
-/
import Derived.Test.Qxb6601015aSmall
import Derived.Outline
namespace Go.Proofs.Qxb6601015a.SK
open Go Go.RowKit

/-! the machine's ways at a place -/
theorem mm_blank {s : ByteArray} {k bs R : Nat} {d : Int} (hlt : k < s.size) (H : mach (s.data.toList.drop k) 0 d bs k = R) (hb : blank s[k] = true) : mach (s.data.toList.drop (k + 1)) 0 d bs (k + 1) = R := by
  rw [← H, (mach0_any _ d 0 bs 0 _).1, (mach0_any (s.data.toList.drop k) d 0 bs 0 _).1, drop_cons s k hlt, way_blank k hb]

theorem mm_last {s : ByteArray} {k bs R : Nat} {d : Int} (hlt : k < s.size) (hn : ¬ k + 1 < s.size) (H : mach (s.data.toList.drop k) 0 d bs k = R) (hb : blank s[k] = false) : k = R := by
  rw [← H, (mach0_any (s.data.toList.drop k) d 0 bs 0 _).1, drop_cons s k hlt, List.drop_eq_nil_of_le (by rw [← Lib.size_eq]; omega), way_last k hb]

theorem mm_stop {s : ByteArray} {k bs R : Nat} {d : Int} (hlt : k + 1 < s.size) (H : mach (s.data.toList.drop k) 0 d bs k = R) (hb : blank s[k] = false) (h1 : ¬ (s[k] = 45 ∧ s[k + 1] = 45)) (h2 : ¬ (s[k] = 47 ∧ s[k + 1] = 42)) : k = R := by
  rw [← H, (mach0_any (s.data.toList.drop k) d 0 bs 0 _).1, drop_two s k hlt, way_stop k hb h1 h2]

theorem mm_line {s : ByteArray} {k bs R : Nat} {d : Int} (hlt : k + 1 < s.size) (H : mach (s.data.toList.drop k) 0 d bs k = R) (h1 : s[k] = 45 ∧ s[k + 1] = 45) : mach (s.data.toList.drop (k + 2)) 1 d bs (k + 2) = R := by
  rw [← H, drop_two s k hlt, mach, if_neg (by rw [h1.1]; decide), if_pos h1]

theorem mm_block {s : ByteArray} {k bs R : Nat} {d : Int} (hlt : k + 1 < s.size) (H : mach (s.data.toList.drop k) 0 d bs k = R) (h1 : s[k] = 47 ∧ s[k + 1] = 42) : mach (s.data.toList.drop (k + 2)) 2 1 k (k + 2) = R := by
  rw [← H, drop_two s k hlt, mach, if_neg (by rw [h1.1]; decide), if_neg (fun e => by rw [h1.1] at e; exact absurd e.1 (by decide)), if_pos h1]

theorem mm_nl {s : ByteArray} {k bs R : Nat} {d : Int} (hlt : k < s.size) (H : mach (s.data.toList.drop k) 1 d bs k = R) (h : s[k] = 10) : mach (s.data.toList.drop k) 0 d bs k = R := by
  rw [← H, drop_cons s k hlt, h]
  cases s.data.toList.drop (k + 1) with
  | nil => simp [mach, blank]
  | cons b l => simp [mach, blank]

theorem mm_on {s : ByteArray} {k bs R : Nat} {d : Int} (hlt : k < s.size) (H : mach (s.data.toList.drop k) 1 d bs k = R) (h : ¬ s[k] = 10) : mach (s.data.toList.drop (k + 1)) 1 d bs (k + 1) = R := by
  rw [← H, drop_cons s k hlt]
  cases s.data.toList.drop (k + 1) with
  | nil => simp [mach]
  | cons b l => simp [mach, h]

theorem mm_in {s : ByteArray} {k bs R : Nat} {d : Int} (hlt : k + 1 < s.size) (H : mach (s.data.toList.drop k) 2 d bs k = R) (h : s[k] = 47 ∧ s[k + 1] = 42) : mach (s.data.toList.drop (k + 2)) 2 (d + 1) bs (k + 2) = R := by
  rw [← H, drop_two s k hlt, mach, if_pos h]

theorem mm_out {s : ByteArray} {k bs R : Nat} {d : Int} (hlt : k + 1 < s.size) (H : mach (s.data.toList.drop k) 2 d bs k = R) (h : s[k] = 42 ∧ s[k + 1] = 47) (hd : ¬ d - 1 = 0) : mach (s.data.toList.drop (k + 2)) 2 (d - 1) bs (k + 2) = R := by
  rw [← H, drop_two s k hlt, mach, if_neg (fun e => by rw [h.1] at e; exact absurd e.1 (by decide)), if_pos h, if_neg hd]

theorem mm_close {s : ByteArray} {k bs R : Nat} {d : Int} (hlt : k + 1 < s.size) (H : mach (s.data.toList.drop k) 2 d bs k = R) (h : s[k] = 42 ∧ s[k + 1] = 47) (hd : d - 1 = 0) : mach (s.data.toList.drop (k + 2)) 0 (d - 1) bs (k + 2) = R := by
  rw [← H, drop_two s k hlt, mach, if_neg (fun e => by rw [h.1] at e; exact absurd e.1 (by decide)), if_pos h, if_pos hd]

theorem mm_text {s : ByteArray} {k bs R : Nat} {d : Int} (hlt : k + 1 < s.size) (H : mach (s.data.toList.drop k) 2 d bs k = R) (h1 : ¬ (s[k] = 47 ∧ s[k + 1] = 42)) (h2 : ¬ (s[k] = 42 ∧ s[k + 1] = 47)) : mach (s.data.toList.drop (k + 1)) 2 d bs (k + 1) = R := by
  rw [← H, drop_two s k hlt, mach, if_neg h1, if_neg h2, ← drop_cons s (k + 1) hlt]

theorem mm_text_last {s : ByteArray} {k bs R : Nat} {d : Int} (hlt : k < s.size) (hn : ¬ k + 1 < s.size) (H : mach (s.data.toList.drop k) 2 d bs k = R) : mach (s.data.toList.drop (k + 1)) 2 d bs (k + 1) = R := by
  rw [← H, drop_cons s k hlt, List.drop_eq_nil_of_le (by rw [← Lib.size_eq]; omega)]; rfl

theorem mm_end {s : ByteArray} {k bs R st : Nat} {d : Int} (hn : ¬ k < s.size) (H : mach (s.data.toList.drop k) st d bs k = R) : mach [] st d bs k = R := by
  rw [← H, List.drop_eq_nil_of_le (by rw [← Lib.size_eq]; omega)]

set_option maxRecDepth 100000 in
set_option maxHeartbeats 1000000 in
theorem skipModel_any (s : ByteArray) (p : Nat) (w : World) (hs : s.size ≤ 1048576) (hp : p ≤ s.size) :
    Calls Try.prog 16 #[.string s, .int .i64 p] w fun e w' => e = .returned (.int .i64 (mach (s.data.toList.drop p) 0 0 0 p)) ∧ w' = w := by
  generalize hR : mach (s.data.toList.drop p) 0 0 0 p = R
  have HR : Hid (mach (s.data.toList.drop p) 0 0 0 p = R) := hR
  clear hR
  go_enter Try.func16, Try.ntmps16
  go_wp2
  go_loop [5, 6, 7, 8] (fun stv dv bsv iv => ∃ (st k bs : Nat) (d : Int), k ≤ s.size ∧ st ≤ 2 ∧ -(k : Int) ≤ d ∧ d ≤ k ∧ bs ≤ s.size ∧ stv = .int .i64 st ∧ dv = .int .i64 d ∧ bsv = .int .i64 bs ∧ iv = .int .i64 k ∧ Hid (mach (s.data.toList.drop k) st d bs k = R)) (fun st _ _ i => 2 * (s.size - (intOf i).toNat) + (if intOf st = 1 then 1 else 0))
  case atStart => exact ⟨0, p, 0, 0, hp, by omega, by omega, by omega, by omega, rfl, rfl, rfl, rfl, HR⟩
  case round =>
    obtain ⟨st, k, bs, d, hk, hst, hd1, hd2, hbs, rfl, rfl, rfl, rfl, H⟩ := hrel
    have hst' : st = 0 ∨ st = 1 ∨ st = 2 := by omega
    by_cases hlt : k < s.size
    · rcases hst' with rfl | rfl | rfl
      · by_cases hb : blank s[k] = true
        · have HN : Hid (mach (s.data.toList.drop (k + 1)) 0 d bs (k + 1) = R) := mm_blank hlt H.out hb
          go_wp2_with (go_at_call 33; refine (blankByte_any _ _).mono ?_; rintro e w' ⟨rfl, rfl⟩; rw [hb])
          go_round
          case rel => exact ⟨0, k + 1, bs, d, by omega, by omega, by omega, by omega, by omega, by go_num, rfl, rfl, by go_num, HN⟩
          case measure => simp [intOf]; omega
        · have hb' : blank s[k] = false := by simpa using hb
          clear hb
          by_cases hlt2 : k + 1 < s.size
          · by_cases c45 : s[k] = 45
            · have t45 : ((s[k].toNat : Int) == 45) = true := byte_eq c45
              have t47 : ((s[k].toNat : Int) == 47) = false := by rw [c45]; rfl
              by_cases n45 : s[k + 1] = 45
              · have u45 : ((s[k + 1].toNat : Int) == 45) = true := byte_eq n45
                have HN : Hid (mach (s.data.toList.drop (k + 2)) 1 d bs (k + 2) = R) := mm_line hlt2 H.out ⟨c45, n45⟩
                clear c45 n45
                go_wp2_with (go_at_call 33; refine (blankByte_any _ _).mono ?_; rintro e w' ⟨rfl, rfl⟩; rw [hb'])
                go_round
                case rel => exact ⟨1, k + 2, bs, d, by omega, by omega, by omega, by omega, by omega, by go_num, rfl, rfl, by go_num, HN⟩
                case measure => simp [intOf]; omega
              · have u45 : ((s[k + 1].toNat : Int) == 45) = false := byte_ne n45
                have HN : Hid ((k : Int) = R) := congrArg Int.ofNat (mm_stop hlt2 H.out hb' (fun e => n45 e.2) (fun e => absurd (c45.symm.trans e.1) (by decide)))
                clear c45 n45
                go_wp2_with (go_at_call 33; refine (blankByte_any _ _).mono ?_; rintro e w' ⟨rfl, rfl⟩; rw [hb'])
                go_ret
                exact ⟨ret_int HN.out, rfl⟩
            · have t45 : ((s[k].toNat : Int) == 45) = false := byte_ne c45
              by_cases c47 : s[k] = 47
              · have t47 : ((s[k].toNat : Int) == 47) = true := byte_eq c47
                by_cases n42 : s[k + 1] = 42
                · have u42 : ((s[k + 1].toNat : Int) == 42) = true := byte_eq n42
                  have HN : Hid (mach (s.data.toList.drop (k + 2)) 2 1 k (k + 2) = R) := mm_block hlt2 H.out ⟨c47, n42⟩
                  clear c45 c47 n42
                  go_wp2_with (go_at_call 33; refine (blankByte_any _ _).mono ?_; rintro e w' ⟨rfl, rfl⟩; rw [hb'])
                  go_round
                  case rel => exact ⟨2, k + 2, k, 1, by omega, by omega, by omega, by omega, by omega, by go_num, rfl, rfl, by go_num, HN⟩
                  case measure => simp [intOf]; omega
                · have u42 : ((s[k + 1].toNat : Int) == 42) = false := byte_ne n42
                  have HN : Hid ((k : Int) = R) := congrArg Int.ofNat (mm_stop hlt2 H.out hb' (fun e => c45 e.1) (fun e => n42 e.2))
                  clear c45 c47 n42
                  go_wp2_with (go_at_call 33; refine (blankByte_any _ _).mono ?_; rintro e w' ⟨rfl, rfl⟩; rw [hb'])
                  go_ret
                  exact ⟨ret_int HN.out, rfl⟩
              · have t47 : ((s[k].toNat : Int) == 47) = false := byte_ne c47
                have HN : Hid ((k : Int) = R) := congrArg Int.ofNat (mm_stop hlt2 H.out hb' (fun e => c45 e.1) (fun e => c47 e.1))
                clear c45 c47
                go_wp2_with (go_at_call 33; refine (blankByte_any _ _).mono ?_; rintro e w' ⟨rfl, rfl⟩; rw [hb'])
                go_ret
                exact ⟨ret_int HN.out, rfl⟩
          · have HN : Hid ((k : Int) = R) := congrArg Int.ofNat (mm_last hlt hlt2 H.out hb')
            go_wp2_with (go_at_call 33; refine (blankByte_any _ _).mono ?_; rintro e w' ⟨rfl, rfl⟩; rw [hb'])
            all_goals go_ret
            all_goals exact ⟨ret_int HN.out, rfl⟩
      · by_cases c : s[k] = 10
        · have t : ((s[k].toNat : Int) == 10) = true := byte_eq c
          have HN : Hid (mach (s.data.toList.drop k) 0 d bs k = R) := mm_nl hlt H.out c
          clear c
          go_wp2
          go_round
          case rel => exact ⟨0, k, bs, d, by omega, by omega, by omega, by omega, by omega, by go_num, rfl, rfl, rfl, HN⟩
          case measure => simp [intOf]
        · have t : ((s[k].toNat : Int) == 10) = false := byte_ne c
          have HN : Hid (mach (s.data.toList.drop (k + 1)) 1 d bs (k + 1) = R) := mm_on hlt H.out c
          clear c
          go_wp2
          go_round
          case rel => exact ⟨1, k + 1, bs, d, by omega, by omega, by omega, by omega, by omega, by go_num, rfl, rfl, by go_num, HN⟩
          case measure => simp [intOf]; omega
      · by_cases hlt2 : k + 1 < s.size
        · by_cases c47 : s[k] = 47
          · have t47 : ((s[k].toNat : Int) == 47) = true := byte_eq c47
            have t42 : ((s[k].toNat : Int) == 42) = false := by rw [c47]; rfl
            by_cases n42 : s[k + 1] = 42
            · have u42 : ((s[k + 1].toNat : Int) == 42) = true := byte_eq n42
              have HN : Hid (mach (s.data.toList.drop (k + 2)) 2 (d + 1) bs (k + 2) = R) := mm_in hlt2 H.out ⟨c47, n42⟩
              clear c47 n42
              go_wp2
              go_round
              case rel => exact ⟨2, k + 2, bs, d + 1, by omega, by omega, by omega, by omega, by omega, by go_num, rfl, rfl, by go_num, HN⟩
              case measure => simp [intOf]; omega
            · have u42 : ((s[k + 1].toNat : Int) == 42) = false := byte_ne n42
              have HN : Hid (mach (s.data.toList.drop (k + 1)) 2 d bs (k + 1) = R) := mm_text hlt2 H.out (fun e => n42 e.2) (fun e => absurd (c47.symm.trans e.1) (by decide))
              clear c47 n42
              go_wp2
              go_round
              case rel => exact ⟨2, k + 1, bs, d, by omega, by omega, by omega, by omega, by omega, by go_num, rfl, rfl, by go_num, HN⟩
              case measure => simp [intOf]; omega
          · have t47 : ((s[k].toNat : Int) == 47) = false := byte_ne c47
            by_cases c42 : s[k] = 42
            · have t42 : ((s[k].toNat : Int) == 42) = true := byte_eq c42
              by_cases n47 : s[k + 1] = 47
              · have u47 : ((s[k + 1].toNat : Int) == 47) = true := byte_eq n47
                by_cases hd : d - 1 = 0
                · have td : (d - 1 == 0) = true := by simpa using hd
                  have HN : Hid (mach (s.data.toList.drop (k + 2)) 0 (d - 1) bs (k + 2) = R) := mm_close hlt2 H.out ⟨c42, n47⟩ hd
                  clear c47 c42 n47 hd
                  go_wp2
                  go_round
                  case rel => exact ⟨0, k + 2, bs, d - 1, by omega, by omega, by omega, by omega, by omega, by go_num, rfl, rfl, by go_num, HN⟩
                  case measure => simp [intOf]; omega
                · have td : (d - 1 == 0) = false := by simpa using hd
                  have HN : Hid (mach (s.data.toList.drop (k + 2)) 2 (d - 1) bs (k + 2) = R) := mm_out hlt2 H.out ⟨c42, n47⟩ hd
                  clear c47 c42 n47 hd
                  go_wp2
                  go_round
                  case rel => exact ⟨2, k + 2, bs, d - 1, by omega, by omega, by omega, by omega, by omega, by go_num, rfl, rfl, by go_num, HN⟩
                  case measure => simp [intOf]; omega
              · have u47 : ((s[k + 1].toNat : Int) == 47) = false := byte_ne n47
                have HN : Hid (mach (s.data.toList.drop (k + 1)) 2 d bs (k + 1) = R) := mm_text hlt2 H.out (fun e => c47 e.1) (fun e => n47 e.2)
                clear c47 c42 n47
                go_wp2
                go_round
                case rel => exact ⟨2, k + 1, bs, d, by omega, by omega, by omega, by omega, by omega, by go_num, rfl, rfl, by go_num, HN⟩
                case measure => simp [intOf]; omega
            · have t42 : ((s[k].toNat : Int) == 42) = false := byte_ne c42
              have HN : Hid (mach (s.data.toList.drop (k + 1)) 2 d bs (k + 1) = R) := mm_text hlt2 H.out (fun e => c47 e.1) (fun e => c42 e.1)
              clear c47 c42
              go_wp2
              go_round
              case rel => exact ⟨2, k + 1, bs, d, by omega, by omega, by omega, by omega, by omega, by go_num, rfl, rfl, by go_num, HN⟩
              case measure => simp [intOf]; omega
        · have HN : Hid (mach (s.data.toList.drop (k + 1)) 2 d bs (k + 1) = R) := mm_text_last hlt hlt2 H.out
          go_wp2
          go_round
          case rel => exact ⟨2, k + 1, bs, d, by omega, by omega, by omega, by omega, by omega, by go_num, rfl, rfl, by go_num, HN⟩
          case measure => simp [intOf]; omega
    · rcases hst' with rfl | rfl | rfl
      · have HN := mm_end hlt H.out
        have HN' : Hid ((k : Int) = R) := by
          show (k : Int) = R
          rw [← HN]; rfl
        clear HN
        go_wp2
        go_ret
        exact ⟨ret_int HN'.out, rfl⟩
      · have HN := mm_end hlt H.out
        have HN' : Hid ((k : Int) = R) := by
          show (k : Int) = R
          rw [← HN]; rfl
        clear HN
        go_wp2
        go_ret
        exact ⟨ret_int HN'.out, rfl⟩
      · have HN := mm_end hlt H.out
        have HN' : Hid ((bs : Int) = R) := by
          show (bs : Int) = R
          rw [← HN]; rfl
        clear HN
        go_wp2
        go_ret
        exact ⟨ret_int HN'.out, rfl⟩
end Go.Proofs.Qxb6601015a.SK
