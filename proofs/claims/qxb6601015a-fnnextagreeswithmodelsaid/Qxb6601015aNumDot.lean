/-
  THE WALK of (*Lexer).scanNumber (34): a point behind the first digits.
-/
import Derived.Test.Qxb6601015aNum
namespace Go.Proofs.Qxb6601015a.SK
open Go Go.RowKit

set_option maxRecDepth 100000 in
set_option maxHeartbeats 4000000 in
theorem scanNumber_dot (s : ByteArray) (p b : Nat) (w : World) (hs : s.size ≤ 1048576) (hp : p ≤ s.size)
    (h0 : w.cell? ⟨b, 0, none⟩ = some (.string s)) (h1 : w.cell? ⟨b, 1, none⟩ = some (.int .i64 p)) (hf : w.frozen? ⟨b, 1, none⟩ = false) (hlt : p + run dig (s.data.toList.drop p) < s.size) (hc : s[p + run dig (s.data.toList.drop p)] = 46) :
    Calls Try.prog 34 #[.pointer (some ⟨b, 0, none⟩)] w fun e w' => e = .returned (.int .i64 ((tailN (s.data.toList.drop (p + run dig (s.data.toList.drop p))) (p + run dig (s.data.toList.drop p))).1 : Nat)) ∧ LexIs w w' b s ((tailN (s.data.toList.drop (p + run dig (s.data.toList.drop p))) (p + run dig (s.data.toList.drop p))).2 : Nat) := by
  have hk1 := drop_run_le s p hp
  have hcall := skipDigits_lex (w0 := w) s p b w hs hp ⟨h0, h1, hf, Only.refl _ _⟩
  generalize p + run dig (s.data.toList.drop p) = k1 at *
  generalize hR : tailN (s.data.toList.drop k1) k1 = R
  have HR : Hid (tailN (s.data.toList.drop k1) k1 = R) := hR
  have HCALL := hcall
  clear hR hcall
  go_enter Try.func34, Try.ntmps34
  go_wp2_with fail
  refine HCALL.mono ?_
  rintro e w1 ⟨rfl, HL1⟩
  clear HCALL h0 h1 hf
  have HL1' : LexIs w w1 b s k1 := HL1
  obtain ⟨g0, g1, gf, _⟩ := HL1
  have hlt' : (k1 : Int) < (s.size : Int) := by omega
  have t46 : ((s[k1].toNat : Int) == 46) = true := byte_eq hc
  have hE : expo 3 (s.data.toList.drop (k1 + 1 + run dig (s.data.toList.drop (k1 + 1)))) (k1 + 1 + run dig (s.data.toList.drop (k1 + 1))) = R := by
    rw [← HR.out, drop_cons s k1 hlt, hc, tailN, if_pos rfl, List.drop_drop]
  have hk2 := drop_run_le s (k1 + 1) (by omega)
  clear hc
  go_wp2_with fail
  go_quiet (fail)
  go_wp2_with fail
  refine (skipDigits_lex (w0 := w) s (k1 + 1) b _ hs (by omega) (by exact ((HL1'.drew _).set _).cast (by omega))).mono ?_
  rintro e w2 ⟨rfl, HL2⟩
  generalize k1 + 1 + run dig (s.data.toList.drop (k1 + 1)) = k2 at *
  have HE : Hid (expo 3 (s.data.toList.drop k2) k2 = R) := hE
  clear hE g0 g1 gf HR HL1'
  have HL2' : LexIs w w2 b s k2 := HL2
  obtain ⟨g0, g1, gf, _⟩ := HL2
  have hk0' : (0 : Int) ≤ (k2 : Int) := by omega
  by_cases hlt : k2 < s.size
  · by_cases hE : s[k2] = 101
    · have he : s[k2] = 101 ∨ s[k2] = 69 := Or.inl hE
      have t101 : ((s[k2].toNat : Int) == 101) = true := byte_eq hE
      by_cases hlt1 : k2 + 1 < s.size
      · by_cases hS : s[k2 + 1] = 43
        · have hs1 : s[k2 + 1] = 43 ∨ s[k2 + 1] = 45 := Or.inl hS
          have t43 : ((s[k2 + 1].toNat : Int) == 43) = true := byte_eq hS
          by_cases hlt2 : k2 + 1 + 1 < s.size
          · cases hd : dig s[k2 + 1 + 1]
            · have HN : Hid (R = (3, k2)) := by
                show R = (3, k2)
                rw [← HE.out, expo_s_no hlt2 he hs1 hd]
              clear he hs1 hE hS
              go_wp2_with (go_at_call 36; refine (isDigit_any _ _).mono ?_; rintro e w' ⟨rfl, rfl⟩; rw [hd])
              go_ret
              rw [HN.out]
              exact ⟨rfl, HL2'⟩
            · have HN : Hid (R = (3, k2 + 2 + run dig (s.data.toList.drop (k2 + 2)))) := by
                show R = (3, k2 + 2 + run dig (s.data.toList.drop (k2 + 2)))
                rw [← HE.out, expo_s_yes hlt2 he hs1 hd]
              clear he hs1 hE hS
              go_wp2_with (go_at_call 36; refine (isDigit_any _ _).mono ?_; rintro e w' ⟨rfl, rfl⟩; rw [hd])
              refine (skipDigits_lex (w0 := w) s (k2 + 2) b _ hs (by omega) (by exact (HL2'.set ((k2 : Int) + 1 + 1)).cast (by omega))).mono ?_
              rintro e w3 ⟨rfl, HL3⟩
              go_wp2_with fail
              go_ret
              rw [HN.out]
              exact ⟨rfl, HL3⟩
          · have HN : Hid (R = (3, k2)) := by
              show R = (3, k2)
              rw [← HE.out, expo_s_end hlt1 hlt2 he hs1]
            clear he hs1 hE hS
            go_wp2_with fail
            go_ret
            rw [HN.out]
            exact ⟨rfl, HL2'⟩
        by_cases hS' : s[k2 + 1] = 45
        · have hS : s[k2 + 1] = 45 := hS'
          have hs1 : s[k2 + 1] = 43 ∨ s[k2 + 1] = 45 := Or.inr hS
          have t43 : ((s[k2 + 1].toNat : Int) == 43) = false := by rw [hS]; rfl
          have t45 : ((s[k2 + 1].toNat : Int) == 45) = true := byte_eq hS
          by_cases hlt2 : k2 + 1 + 1 < s.size
          · cases hd : dig s[k2 + 1 + 1]
            · have HN : Hid (R = (3, k2)) := by
                show R = (3, k2)
                rw [← HE.out, expo_s_no hlt2 he hs1 hd]
              clear he hs1 hE hS hS'
              go_wp2_with (go_at_call 36; refine (isDigit_any _ _).mono ?_; rintro e w' ⟨rfl, rfl⟩; rw [hd])
              go_ret
              rw [HN.out]
              exact ⟨rfl, HL2'⟩
            · have HN : Hid (R = (3, k2 + 2 + run dig (s.data.toList.drop (k2 + 2)))) := by
                show R = (3, k2 + 2 + run dig (s.data.toList.drop (k2 + 2)))
                rw [← HE.out, expo_s_yes hlt2 he hs1 hd]
              clear he hs1 hE hS hS'
              go_wp2_with (go_at_call 36; refine (isDigit_any _ _).mono ?_; rintro e w' ⟨rfl, rfl⟩; rw [hd])
              refine (skipDigits_lex (w0 := w) s (k2 + 2) b _ hs (by omega) (by exact (HL2'.set ((k2 : Int) + 1 + 1)).cast (by omega))).mono ?_
              rintro e w3 ⟨rfl, HL3⟩
              go_wp2_with fail
              go_ret
              rw [HN.out]
              exact ⟨rfl, HL3⟩
          · have HN : Hid (R = (3, k2)) := by
              show R = (3, k2)
              rw [← HE.out, expo_s_end hlt1 hlt2 he hs1]
            clear he hs1 hE hS hS'
            go_wp2_with fail
            go_ret
            rw [HN.out]
            exact ⟨rfl, HL2'⟩
        have hs1 : ¬ (s[k2 + 1] = 43 ∨ s[k2 + 1] = 45) := fun h => h.elim hS hS'
        have t43 : ((s[k2 + 1].toNat : Int) == 43) = false := byte_ne hS
        have t45 : ((s[k2 + 1].toNat : Int) == 45) = false := byte_ne hS'
        cases hd : dig s[k2 + 1]
        · have HN : Hid (R = (3, k2)) := by
            show R = (3, k2)
            rw [← HE.out, expo_e_no hlt1 he hs1 hd]
          clear he hs1 hE hS hS'
          go_wp2_with (go_at_call 36; refine (isDigit_any _ _).mono ?_; rintro e w' ⟨rfl, rfl⟩; rw [hd])
          go_ret
          rw [HN.out]
          exact ⟨rfl, HL2'⟩
        · have HN : Hid (R = (3, k2 + 1 + run dig (s.data.toList.drop (k2 + 1)))) := by
            show R = (3, k2 + 1 + run dig (s.data.toList.drop (k2 + 1)))
            rw [← HE.out, expo_e_yes hlt1 he hs1 hd]
          clear he hs1 hE hS hS'
          go_wp2_with (go_at_call 36; refine (isDigit_any _ _).mono ?_; rintro e w' ⟨rfl, rfl⟩; rw [hd])
          refine (skipDigits_lex (w0 := w) s (k2 + 1) b _ hs (by omega) (by exact (HL2'.set ((k2 : Int) + 1)).cast (by omega))).mono ?_
          rintro e w3 ⟨rfl, HL3⟩
          go_wp2_with fail
          go_ret
          rw [HN.out]
          exact ⟨rfl, HL3⟩
      · have HN : Hid (R = (3, k2)) := by
          show R = (3, k2)
          rw [← HE.out, expo_e_end hlt hlt1]
        clear he hE
        go_wp2_with fail
        go_ret
        rw [HN.out]
        exact ⟨rfl, HL2'⟩
    by_cases hE' : s[k2] = 69
    · have hE : s[k2] = 69 := hE'
      have he : s[k2] = 101 ∨ s[k2] = 69 := Or.inr hE
      have t101 : ((s[k2].toNat : Int) == 101) = false := by rw [hE]; rfl
      have t69 : ((s[k2].toNat : Int) == 69) = true := byte_eq hE
      by_cases hlt1 : k2 + 1 < s.size
      · by_cases hS : s[k2 + 1] = 43
        · have hs1 : s[k2 + 1] = 43 ∨ s[k2 + 1] = 45 := Or.inl hS
          have t43 : ((s[k2 + 1].toNat : Int) == 43) = true := byte_eq hS
          by_cases hlt2 : k2 + 1 + 1 < s.size
          · cases hd : dig s[k2 + 1 + 1]
            · have HN : Hid (R = (3, k2)) := by
                show R = (3, k2)
                rw [← HE.out, expo_s_no hlt2 he hs1 hd]
              clear he hs1 hE hE' hS
              go_wp2_with (go_at_call 36; refine (isDigit_any _ _).mono ?_; rintro e w' ⟨rfl, rfl⟩; rw [hd])
              go_ret
              rw [HN.out]
              exact ⟨rfl, HL2'⟩
            · have HN : Hid (R = (3, k2 + 2 + run dig (s.data.toList.drop (k2 + 2)))) := by
                show R = (3, k2 + 2 + run dig (s.data.toList.drop (k2 + 2)))
                rw [← HE.out, expo_s_yes hlt2 he hs1 hd]
              clear he hs1 hE hE' hS
              go_wp2_with (go_at_call 36; refine (isDigit_any _ _).mono ?_; rintro e w' ⟨rfl, rfl⟩; rw [hd])
              refine (skipDigits_lex (w0 := w) s (k2 + 2) b _ hs (by omega) (by exact (HL2'.set ((k2 : Int) + 1 + 1)).cast (by omega))).mono ?_
              rintro e w3 ⟨rfl, HL3⟩
              go_wp2_with fail
              go_ret
              rw [HN.out]
              exact ⟨rfl, HL3⟩
          · have HN : Hid (R = (3, k2)) := by
              show R = (3, k2)
              rw [← HE.out, expo_s_end hlt1 hlt2 he hs1]
            clear he hs1 hE hE' hS
            go_wp2_with fail
            go_ret
            rw [HN.out]
            exact ⟨rfl, HL2'⟩
        by_cases hS' : s[k2 + 1] = 45
        · have hS : s[k2 + 1] = 45 := hS'
          have hs1 : s[k2 + 1] = 43 ∨ s[k2 + 1] = 45 := Or.inr hS
          have t43 : ((s[k2 + 1].toNat : Int) == 43) = false := by rw [hS]; rfl
          have t45 : ((s[k2 + 1].toNat : Int) == 45) = true := byte_eq hS
          by_cases hlt2 : k2 + 1 + 1 < s.size
          · cases hd : dig s[k2 + 1 + 1]
            · have HN : Hid (R = (3, k2)) := by
                show R = (3, k2)
                rw [← HE.out, expo_s_no hlt2 he hs1 hd]
              clear he hs1 hE hE' hS hS'
              go_wp2_with (go_at_call 36; refine (isDigit_any _ _).mono ?_; rintro e w' ⟨rfl, rfl⟩; rw [hd])
              go_ret
              rw [HN.out]
              exact ⟨rfl, HL2'⟩
            · have HN : Hid (R = (3, k2 + 2 + run dig (s.data.toList.drop (k2 + 2)))) := by
                show R = (3, k2 + 2 + run dig (s.data.toList.drop (k2 + 2)))
                rw [← HE.out, expo_s_yes hlt2 he hs1 hd]
              clear he hs1 hE hE' hS hS'
              go_wp2_with (go_at_call 36; refine (isDigit_any _ _).mono ?_; rintro e w' ⟨rfl, rfl⟩; rw [hd])
              refine (skipDigits_lex (w0 := w) s (k2 + 2) b _ hs (by omega) (by exact (HL2'.set ((k2 : Int) + 1 + 1)).cast (by omega))).mono ?_
              rintro e w3 ⟨rfl, HL3⟩
              go_wp2_with fail
              go_ret
              rw [HN.out]
              exact ⟨rfl, HL3⟩
          · have HN : Hid (R = (3, k2)) := by
              show R = (3, k2)
              rw [← HE.out, expo_s_end hlt1 hlt2 he hs1]
            clear he hs1 hE hE' hS hS'
            go_wp2_with fail
            go_ret
            rw [HN.out]
            exact ⟨rfl, HL2'⟩
        have hs1 : ¬ (s[k2 + 1] = 43 ∨ s[k2 + 1] = 45) := fun h => h.elim hS hS'
        have t43 : ((s[k2 + 1].toNat : Int) == 43) = false := byte_ne hS
        have t45 : ((s[k2 + 1].toNat : Int) == 45) = false := byte_ne hS'
        cases hd : dig s[k2 + 1]
        · have HN : Hid (R = (3, k2)) := by
            show R = (3, k2)
            rw [← HE.out, expo_e_no hlt1 he hs1 hd]
          clear he hs1 hE hE' hS hS'
          go_wp2_with (go_at_call 36; refine (isDigit_any _ _).mono ?_; rintro e w' ⟨rfl, rfl⟩; rw [hd])
          go_ret
          rw [HN.out]
          exact ⟨rfl, HL2'⟩
        · have HN : Hid (R = (3, k2 + 1 + run dig (s.data.toList.drop (k2 + 1)))) := by
            show R = (3, k2 + 1 + run dig (s.data.toList.drop (k2 + 1)))
            rw [← HE.out, expo_e_yes hlt1 he hs1 hd]
          clear he hs1 hE hE' hS hS'
          go_wp2_with (go_at_call 36; refine (isDigit_any _ _).mono ?_; rintro e w' ⟨rfl, rfl⟩; rw [hd])
          refine (skipDigits_lex (w0 := w) s (k2 + 1) b _ hs (by omega) (by exact (HL2'.set ((k2 : Int) + 1)).cast (by omega))).mono ?_
          rintro e w3 ⟨rfl, HL3⟩
          go_wp2_with fail
          go_ret
          rw [HN.out]
          exact ⟨rfl, HL3⟩
      · have HN : Hid (R = (3, k2)) := by
          show R = (3, k2)
          rw [← HE.out, expo_e_end hlt hlt1]
        clear he hE hE'
        go_wp2_with fail
        go_ret
        rw [HN.out]
        exact ⟨rfl, HL2'⟩
    have t101 : ((s[k2].toNat : Int) == 101) = false := byte_ne hE
    have t69 : ((s[k2].toNat : Int) == 69) = false := byte_ne hE'
    have HN : Hid (R = (3, k2)) := by
      show R = (3, k2)
      rw [← HE.out, expo_none hlt (fun h => h.elim hE hE')]
    clear hE hE'
    go_wp2_with fail
    go_ret
    rw [HN.out]
    exact ⟨rfl, HL2'⟩
  · have HN : Hid (R = (3, k2)) := by
      show R = (3, k2)
      rw [← HE.out, expo_end hlt]
    go_wp2_with fail
    go_ret
    rw [HN.out]
    exact ⟨rfl, HL2'⟩
end Go.Proofs.Qxb6601015a.SK
