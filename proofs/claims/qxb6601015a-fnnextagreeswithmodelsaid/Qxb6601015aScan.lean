/-
  THE WALKS of isLetter (35), zzSynAlphaByte (29), isDigit (36), zzSynDigit (25), skipDigits (42), scanNumber (34), scanString (37).
-/
import Derived.Test.Qxb6601015aSkip
import Derived.Test.Qxb6601015aTok
namespace Go.Proofs.Qxb6601015a.SK
open Go Go.RowKit

theorem dig_int (c : UInt8) : dig c = (decide ((48 : Int) ≤ (c.toNat : Int)) && decide ((c.toNat : Int) ≤ 57)) := by
  unfold dig
  have e1 : decide ((48 : Int) ≤ (c.toNat : Int)) = decide (48 ≤ c.toNat) := by apply decide_eq_decide.2; omega
  have e2 : decide ((c.toNat : Int) ≤ 57) = decide (c.toNat ≤ 57) := by apply decide_eq_decide.2; omega
  rw [e1, e2]

theorem alpha_int (c : UInt8) : alpha c = ((decide ((97 : Int) ≤ (c.toNat : Int)) && decide ((c.toNat : Int) ≤ 122)) || (decide ((65 : Int) ≤ (c.toNat : Int)) && decide ((c.toNat : Int) ≤ 90)) || ((c.toNat : Int) == 95)) := by
  unfold alpha
  have e1 : decide ((97 : Int) ≤ (c.toNat : Int)) = decide (97 ≤ c.toNat) := by apply decide_eq_decide.2; omega
  have e2 : decide ((c.toNat : Int) ≤ 122) = decide (c.toNat ≤ 122) := by apply decide_eq_decide.2; omega
  have e3 : decide ((65 : Int) ≤ (c.toNat : Int)) = decide (65 ≤ c.toNat) := by apply decide_eq_decide.2; omega
  have e4 : decide ((c.toNat : Int) ≤ 90) = decide (c.toNat ≤ 90) := by apply decide_eq_decide.2; omega
  have e5 : ((c.toNat : Int) == 95) = decide (c.toNat = 95) := by
    rw [Bool.eq_iff_iff]; simp; omega
  rw [e1, e2, e3, e4, e5]

theorem isDigit_any (c : UInt8) (w : World) : Calls Try.prog 36 #[.int .u8 (c.toNat : Int)] w fun e w' => e = .returned (.bool (dig c)) ∧ w' = w := by
  rw [dig_int]
  go_enter Try.func36, Try.ntmps36
  go_wp2
  all_goals go_ret
  all_goals exact ⟨ret_bool (by first | (rw [Bool.eq_iff_iff]; simp; omega) | (simp; done) | (simp [*]; done) | (simp [*]; omega)), rfl⟩

theorem synDigit_any (c : UInt8) (w : World) : Calls Try.prog 25 #[.int .u8 (c.toNat : Int)] w fun e w' => e = .returned (.bool (dig c)) ∧ w' = w := by
  rw [dig_int]
  go_enter Try.func25, Try.ntmps25
  go_wp2
  all_goals go_ret
  all_goals exact ⟨ret_bool (by first | (rw [Bool.eq_iff_iff]; simp; omega) | (simp; done) | (simp [*]; done) | (simp [*]; omega)), rfl⟩

theorem isLetter_any (c : UInt8) (w : World) : Calls Try.prog 35 #[.int .u8 (c.toNat : Int)] w fun e w' => e = .returned (.bool (alpha c)) ∧ w' = w := by
  rw [alpha_int]
  go_enter Try.func35, Try.ntmps35
  go_wp2
  all_goals go_ret
  all_goals exact ⟨ret_bool (by first | (rw [Bool.eq_iff_iff]; simp; omega) | (simp; done) | (simp [*]; done) | (simp [*]; omega)), rfl⟩

theorem synAlpha_any (c : UInt8) (w : World) : Calls Try.prog 29 #[.int .u8 (c.toNat : Int)] w fun e w' => e = .returned (.bool (alpha c)) ∧ w' = w := by
  rw [alpha_int]
  go_enter Try.func29, Try.ntmps29
  go_wp2
  all_goals go_ret
  all_goals exact ⟨ret_bool (by first | (rw [Bool.eq_iff_iff]; simp; omega) | (simp; done) | (simp [*]; done) | (simp [*]; omega)), rfl⟩

theorem drop_nil (s : ByteArray) (k : Nat) (h : ¬ k < s.size) : s.data.toList.drop k = [] := List.drop_eq_nil_of_le (by rw [← Lib.size_eq]; omega)

/-- A lexer in block b: its text, its place; and of all that was in w only block b may have turned. -/
def LexIs (w W : World) (b : Nat) (s : ByteArray) (k : Int) : Prop :=
  W.cell? ⟨b, 0, none⟩ = some (.string s) ∧ W.cell? ⟨b, 1, none⟩ = some (.int .i64 k) ∧ W.frozen? ⟨b, 1, none⟩ = false ∧ Only b w W

theorem LexIs.drew {w W : World} {b : Nat} {s : ByteArray} {k : Int} (h : LexIs w W b s k) (n : Nat) : LexIs w (W.drewN n) b s k :=
  ⟨h.1, h.2.1, h.2.2.1, only_drewN h.2.2.2 n⟩

theorem LexIs.set {w W : World} {b : Nat} {s : ByteArray} {k : Int} (h : LexIs w W b s k) (k' : Int) : LexIs w (W.setCell ⟨b, 1, none⟩ (.int .i64 k')) b s k' :=
  lex_step 0 k' h.1 h.2.1 h.2.2.1 h.2.2.2

theorem LexIs.post {w W : World} {b R : Nat} {s : ByteArray} {k : Int} (h : LexIs w W b s k) (hv : k = R) :
    Only b w W ∧ W.cell? ⟨b, 0, none⟩ = some (.string s) ∧ W.cell? ⟨b, 1, none⟩ = some (.int .i64 R) ∧ W.frozen? ⟨b, 1, none⟩ = false :=
  ⟨h.2.2.2, h.1, hv ▸ h.2.1, h.2.2.1⟩

theorem LexIs.rel {w W : World} {b g : Nat} {s : ByteArray} {v : Int} {φ : Nat → Prop} (h : LexIs w W b s v) (k' : Nat) (hv : v = k') (hk : k' ≤ s.size) (hg : s.size - k' ≤ g) (H : Hid (φ k')) :
    ∃ k : Nat, k ≤ s.size ∧ s.size - k ≤ g ∧ W.cell? ⟨b, 0, none⟩ = some (.string s) ∧ W.cell? ⟨b, 1, none⟩ = some (.int .i64 k) ∧ W.frozen? ⟨b, 1, none⟩ = false ∧ Only b w W ∧ Hid (φ k) :=
  ⟨k', hk, hg, h.1, hv ▸ h.2.1, h.2.2.1, h.2.2.2, H⟩

/-- The round's end, whatever the relation's own limb. -/
theorem lex_relP {w wr : World} {b g : Nat} {s : ByteArray} {k v : Int} {n : Nat} {φ : Nat → Prop} (k' : Nat) (hv : v = k') (g0 : wr.cell? ⟨b, 0, none⟩ = some (.string s)) (g1 : wr.cell? ⟨b, 1, none⟩ = some (.int .i64 k)) (gf : wr.frozen? ⟨b, 1, none⟩ = false) (hB : Only b w wr)
    (hk : k' ≤ s.size) (hg : s.size - k' ≤ g) (H : Hid (φ k')) :
    ∃ k : Nat, k ≤ s.size ∧ s.size - k ≤ g ∧ ((wr.drewN n).setCell ⟨b, 1, none⟩ (.int .i64 v)).cell? ⟨b, 0, none⟩ = some (.string s) ∧ ((wr.drewN n).setCell ⟨b, 1, none⟩ (.int .i64 v)).cell? ⟨b, 1, none⟩ = some (.int .i64 k) ∧
      ((wr.drewN n).setCell ⟨b, 1, none⟩ (.int .i64 v)).frozen? ⟨b, 1, none⟩ = false ∧ Only b w ((wr.drewN n).setCell ⟨b, 1, none⟩ (.int .i64 v)) ∧ Hid (φ k) := by
  subst hv
  obtain ⟨q0, q1, qf, qB⟩ := lex_step n (k' : Int) g0 g1 gf hB
  exact ⟨k', hk, hg, q0, q1, qf, qB, H⟩

set_option maxRecDepth 100000 in
set_option maxHeartbeats 1000000 in
theorem skipDigits_any (s : ByteArray) (p b : Nat) (w : World) (hs : s.size ≤ 1048576) (hp : p ≤ s.size)
    (h0 : w.cell? ⟨b, 0, none⟩ = some (.string s)) (h1 : w.cell? ⟨b, 1, none⟩ = some (.int .i64 p)) (hf : w.frozen? ⟨b, 1, none⟩ = false) :
    Calls Try.prog 42 #[.pointer (some ⟨b, 0, none⟩)] w fun e w' => e = .returned (.tuple #[]) ∧ Only b w w' ∧ w'.cell? ⟨b, 0, none⟩ = some (.string s) ∧ w'.cell? ⟨b, 1, none⟩ = some (.int .i64 (p + run dig (s.data.toList.drop p) : Nat)) ∧ w'.frozen? ⟨b, 1, none⟩ = false := by
  generalize hR : p + run dig (s.data.toList.drop p) = R
  have HR : Hid (p + run dig (s.data.toList.drop p) = R) := hR
  clear hR
  go_enter Try.func42, Try.ntmps42
  go_wp2
  go_loopg [] s.size (fun g wr => ∃ k : Nat, k ≤ s.size ∧ s.size - k ≤ g ∧ wr.cell? ⟨b, 0, none⟩ = some (.string s) ∧ wr.cell? ⟨b, 1, none⟩ = some (.int .i64 k) ∧ wr.frozen? ⟨b, 1, none⟩ = false ∧ Only b w wr ∧ Hid (k + run dig (s.data.toList.drop k) = R))
  case atStart => exact ⟨p, hp, by omega, h0, h1, hf, Only.refl _ _, HR⟩
  case round =>
    obtain ⟨k, hk, hg, g0, g1, gf, hB, H⟩ := hrel
    by_cases hlt : k < s.size
    · have hlt' : (k : Int) < (s.size : Int) := by omega
      by_cases hd : dig s[k] = true
      · have HN : Hid (k + 1 + run dig (s.data.toList.drop (k + 1)) = R) := by
          show k + 1 + run dig (s.data.toList.drop (k + 1)) = R
          rw [← H.out, drop_cons s k hlt, run_yes _ hd]; omega
        go_wp2
        go_quiet ((go_at_call 36; exact Calls.quiet_of_same (isDigit_any _ _)))
        rw [hd]
        go_wp2
        go_roundg (s.size - (k + 1))
        case measure => omega
        case rel => exact lex_relP (φ := fun k => k + run dig (s.data.toList.drop k) = R) (k + 1) (by omega) g0 g1 gf hB (by omega) (by omega) HN
      · have hd' : dig s[k] = false := by simpa using hd
        have HN : Hid (k = R) := by
          show k = R
          rw [← H.out, drop_cons s k hlt, run_no _ hd]; rfl
        clear hd
        go_wp2
        go_quiet ((go_at_call 36; exact Calls.quiet_of_same (isDigit_any _ _)))
        rw [hd']
        go_wp2
        go_end0
        exact ⟨rfl, only_drewN hB _, g0, HN.out ▸ g1, gf⟩
    · have hd : decide ((k : Int) < (s.size : Int)) = false := by simp; omega
      have HN : Hid (k = R) := by
        show k = R
        rw [← H.out, drop_nil s k hlt]; rfl
      go_wp2
      go_quiet (fail)
      go_wp2
      go_end0
      exact ⟨rfl, only_drewN hB _, g0, HN.out ▸ g1, gf⟩

theorem byte_bne {c : UInt8} {n : UInt8} (h : ¬ c = n) : ((c.toNat : Int) != (n.toNat : Int)) = true := by rw [bne, byte_ne h]; rfl

/-- The kind of a string token: closed or open. -/
def skind (b : Bool) : Int := if b then 4 else 7

theorem strC_ne {c : UInt8} (l : List UInt8) (n : Nat) (h : ¬ c = 39) : strC (c :: l) n = strC l (n + 1) := by
  cases l with
  | nil => simp [strC, h]
  | cons d r => rw [strC, if_neg h]
theorem strC_last (n : Nat) : strC [39] n = (true, n + 1) := by simp [strC]
theorem strC_end {d : UInt8} (r : List UInt8) (n : Nat) (h : ¬ d = 39) : strC (39 :: d :: r) n = (true, n + 1) := by simp [strC, h]
theorem strC_pair (r : List UInt8) (n : Nat) : strC (39 :: 39 :: r) n = strC r (n + 2) := by simp [strC]

set_option maxRecDepth 100000 in
set_option maxHeartbeats 1000000 in
theorem scanString_any (s : ByteArray) (p b : Nat) (w : World) (hs : s.size ≤ 1048576) (hp : p < s.size)
    (h0 : w.cell? ⟨b, 0, none⟩ = some (.string s)) (h1 : w.cell? ⟨b, 1, none⟩ = some (.int .i64 p)) (hf : w.frozen? ⟨b, 1, none⟩ = false) :
    Calls Try.prog 37 #[.pointer (some ⟨b, 0, none⟩)] w fun e w' => e = .returned (.int .i64 (skind (strC (s.data.toList.drop (p + 1)) (p + 1)).1)) ∧ Only b w w' ∧ w'.cell? ⟨b, 0, none⟩ = some (.string s) ∧ w'.cell? ⟨b, 1, none⟩ = some (.int .i64 ((strC (s.data.toList.drop (p + 1)) (p + 1)).2 : Nat)) ∧ w'.frozen? ⟨b, 1, none⟩ = false := by
  generalize hR : strC (s.data.toList.drop (p + 1)) (p + 1) = R
  have HR : Hid (strC (s.data.toList.drop (p + 1)) (p + 1) = R) := hR
  clear hR
  go_enter Try.func37, Try.ntmps37
  go_wp2
  go_loopg [] s.size (fun g wr => ∃ k : Nat, k ≤ s.size ∧ s.size - k ≤ g ∧ wr.cell? ⟨b, 0, none⟩ = some (.string s) ∧ wr.cell? ⟨b, 1, none⟩ = some (.int .i64 k) ∧ wr.frozen? ⟨b, 1, none⟩ = false ∧ Only b w wr ∧ Hid (strC (s.data.toList.drop k) k = R))
  case atStart => exact lex_relP (n := 0) (φ := fun k => strC (s.data.toList.drop k) k = R) (p + 1) (by omega) h0 h1 hf (Only.refl _ _) (by omega) (by omega) HR
  case round =>
    obtain ⟨k, hk, hg, g0, g1, gf, hB, H⟩ := hrel
    have HL : LexIs w wr b s k := ⟨g0, g1, gf, hB⟩
    by_cases hlt : k < s.size
    · have hlt' : (k : Int) < (s.size : Int) := by omega
      by_cases hc : s[k] = 39
      · have t39 : ((s[k].toNat : Int) != 39) = false := by rw [hc]; rfl
        by_cases hlt2 : k + 1 < s.size
        · have hlt2' : (k : Int) + 1 < (s.size : Int) := by omega
          have hk0 : (0 : Int) ≤ (k : Int) + 1 := by omega
          have hne : ((k : Int) + 1 == (s.size : Int)) = false := by rw [beq_eq_false_iff_ne]; omega
          by_cases hd : s[k + 1] = 39
          · have u39 : ((s[k + 1].toNat : Int) != 39) = false := by rw [hd]; rfl
            have HN : Hid (strC (s.data.toList.drop (k + 2)) (k + 2) = R) := by
              show strC (s.data.toList.drop (k + 2)) (k + 2) = R
              rw [← H.out, drop_two s k hlt2, hc, hd, strC_pair]
            clear hc hd
            go_wp2
            go_quiet (fail)
            go_wp2
            go_quiet (fail)
            go_wp2
            go_quiet (fail)
            go_wp2
            go_roundg (s.size - (k + 2))
            case measure => omega
            case rel => exact LexIs.rel (φ := fun k => strC (s.data.toList.drop k) k = R) ((((HL.drew _).set _).drew _).set _) (k + 2) (by omega) (by omega) (by omega) HN
          · have u39 : ((s[k + 1].toNat : Int) != 39) = true := byte_bne hd
            have HN : Hid (R = (true, k + 1)) := by
              show R = (true, k + 1)
              rw [← H.out, drop_two s k hlt2, hc, strC_end _ _ hd]
            clear hc hd
            go_wp2
            go_quiet (fail)
            go_wp2
            go_quiet (fail)
            go_wp2
            go_quiet (fail)
            go_wp2
            go_ret
            rw [HN.out]
            exact ⟨rfl, (((HL.drew _).set _).drew _).post (by omega)⟩
        · have heq : ((k : Int) + 1 == (s.size : Int)) = true := by rw [beq_iff_eq]; omega
          have HN : Hid (R = (true, k + 1)) := by
            show R = (true, k + 1)
            rw [← H.out, drop_cons s k hlt, hc, drop_nil s (k + 1) hlt2, strC_last]
          clear hc
          go_wp2
          go_quiet (fail)
          go_wp2
          go_quiet (fail)
          go_wp2
          go_quiet (fail)
          go_wp2
          go_ret
          rw [HN.out]
          exact ⟨rfl, (((HL.drew _).set _).drew _).post (by omega)⟩
      · have t39 : ((s[k].toNat : Int) != 39) = true := byte_bne hc
        have HN : Hid (strC (s.data.toList.drop (k + 1)) (k + 1) = R) := by
          show strC (s.data.toList.drop (k + 1)) (k + 1) = R
          rw [← H.out, drop_cons s k hlt, strC_ne _ _ hc]
        clear hc
        go_wp2
        go_quiet (fail)
        go_wp2
        go_quiet (fail)
        go_wp2
        go_roundg (s.size - (k + 1))
        case measure => omega
        case rel => exact LexIs.rel (φ := fun k => strC (s.data.toList.drop k) k = R) ((HL.drew _).set _) (k + 1) (by omega) (by omega) (by omega) HN
    · have HN : Hid (R = (false, k)) := by
        show R = (false, k)
        rw [← H.out, drop_nil s k hlt]; rfl
      go_wp2
      go_quiet (fail)
      go_wp2
      go_ret
      rw [HN.out]
      exact ⟨rfl, (HL.drew _).post rfl⟩
end Go.Proofs.Qxb6601015a.SK
