/-
  THE WALK of zzSynNextModel (13): a theorem a case.
-/
import Derived.Test.Qxb6601015aCases
import Derived.Test.Qxb6601015aModel
import Derived.Test.Qxb6601015aNumM
import Derived.Test.Qxb6601015aStrM
import Derived.Test.Qxb6601015aPunct
namespace Go.Proofs.Qxb6601015a.SK
open Go Go.RowKit

theorem tri {a b c : Int} {a' b' c' : Int} (h1 : a' = a) (h2 : b' = b) (h3 : c' = c) :
    Ending.returned (.tuple #[.int .i64 a, .int .i64 b, .int .i64 c]) = .returned (.tuple #[.int .i64 a', .int .i64 b', .int .i64 c']) := by
  rw [h1, h2, h3]

/-- What the model answers: the token T at q. -/
def ModelPost (w : World) (q : Nat) (T : Nat × Nat) : Ending → World → Prop :=
  fun e w' => e = .returned (.tuple #[.int .i64 (T.1 : Nat), .int .i64 (q : Nat), .int .i64 (q + T.2 : Nat)]) ∧ w' = w

set_option maxRecDepth 100000 in
set_option maxHeartbeats 2000000 in
theorem model_eof (s : ByteArray) (p q : Nat) (w : World) (hs : s.size ≤ 1048576) (hp : p ≤ s.size) (HQ : Hid (mach (s.data.toList.drop p) 0 0 0 p = q)) (hq : q ≤ s.size) (hn : ¬ q < s.size) :
    Calls Try.prog 13 #[.string s, .int .i64 p] w (ModelPost w q (tokOf (s.data.toList.drop q))) := by
  unfold ModelPost
  have HT : Hid (tokOf (s.data.toList.drop q) = (0, 0)) := tk_eof hn
  have te : ((q : Int) == (s.size : Int)) = true := by rw [beq_iff_eq]; omega
  generalize tokOf (s.data.toList.drop q) = T at *
  go_enter Try.func13, Try.ntmps13
  go_wp2_with fail
  refine (skipModel_any s p _ hs hp).mono ?_
  rintro e w' ⟨rfl, rfl⟩
  rw [HQ.out]
  go_wp2_with fail
  go_ret3
  exact ⟨tri (by rw [HT.out]; rfl) rfl (by rw [HT.out]; rfl), rfl⟩

set_option maxRecDepth 100000 in
set_option maxHeartbeats 2000000 in
theorem model_alpha (s : ByteArray) (p q : Nat) (w : World) (hs : s.size ≤ 1048576) (hp : p ≤ s.size) (HQ : Hid (mach (s.data.toList.drop p) 0 0 0 p = q)) (hq : q < s.size) (ha : alpha s[q] = true) :
    Calls Try.prog 13 #[.string s, .int .i64 p] w (ModelPost w q (tokOf (s.data.toList.drop q))) := by
  unfold ModelPost
  have HT : Hid (tokOf (s.data.toList.drop q) = (1, 1 + run alnum (s.data.toList.drop (q + 1)))) := tk_alpha hq ha
  have te : ((q : Int) == (s.size : Int)) = false := by rw [beq_eq_false_iff_ne]; omega
  generalize tokOf (s.data.toList.drop q) = T at *
  go_enter Try.func13, Try.ntmps13
  go_wp2_with fail
  refine (skipModel_any s p _ hs hp).mono ?_
  rintro e w' ⟨rfl, rfl⟩
  rw [HQ.out]
  go_wp2_with (go_at_call 29; refine (synAlpha_any _ _).mono ?_; rintro e w' ⟨rfl, rfl⟩; rw [ha])
  go_loop [10] (fun ev => ∃ k : Nat, q + 1 ≤ k ∧ k ≤ s.size ∧ ev = .int .i64 k ∧ Hid (k + run alnum (s.data.toList.drop k) = q + (1 + run alnum (s.data.toList.drop (q + 1))))) (fun ev => s.size - (intOf ev).toNat)
  case atStart => exact ⟨q + 1, by omega, by omega, by go_num, by show q + 1 + run alnum (s.data.toList.drop (q + 1)) = q + (1 + run alnum (s.data.toList.drop (q + 1))); omega⟩
  case round =>
    obtain ⟨k, hk1, hk, rfl, H⟩ := hrel
    by_cases hlt : k < s.size
    · cases hak : alpha s[k] with
      | true =>
        have HN : Hid (k + 1 + run alnum (s.data.toList.drop (k + 1)) = q + (1 + run alnum (s.data.toList.drop (q + 1)))) := by
          show k + 1 + run alnum (s.data.toList.drop (k + 1)) = q + (1 + run alnum (s.data.toList.drop (q + 1)))
          rw [← H.out, drop_cons s k hlt, run_yes _ (show alnum s[k] = true from by simp [alnum, hak])]; omega
        go_wp2_with (go_at_call 29; refine (synAlpha_any _ _).mono ?_; rintro e w' ⟨rfl, rfl⟩; rw [hak])
        go_round
        case rel => exact ⟨k + 1, by omega, by omega, by go_num, HN⟩
        case measure => simp [intOf]; omega
      | false =>
        cases hdk : dig s[k] with
        | true =>
          have HN : Hid (k + 1 + run alnum (s.data.toList.drop (k + 1)) = q + (1 + run alnum (s.data.toList.drop (q + 1)))) := by
            show k + 1 + run alnum (s.data.toList.drop (k + 1)) = q + (1 + run alnum (s.data.toList.drop (q + 1)))
            rw [← H.out, drop_cons s k hlt, run_yes _ (show alnum s[k] = true from by simp [alnum, hdk])]; omega
          go_wp2_with (first | (go_at_call 29; refine (synAlpha_any _ _).mono ?_; rintro e w' ⟨rfl, rfl⟩; rw [hak]) | (go_at_call 25; refine (synDigit_any _ _).mono ?_; rintro e w' ⟨rfl, rfl⟩; rw [hdk]))
          go_round
          case rel => exact ⟨k + 1, by omega, by omega, by go_num, HN⟩
          case measure => simp [intOf]; omega
        | false =>
          have HN : Hid (q + (1 + run alnum (s.data.toList.drop (q + 1))) = k) := by
            show q + (1 + run alnum (s.data.toList.drop (q + 1))) = k
            rw [← H.out, drop_cons s k hlt, run_no _ (show ¬ alnum s[k] = true from by simp [alnum, hak, hdk])]; rfl
          go_wp2_with (first | (go_at_call 29; refine (synAlpha_any _ _).mono ?_; rintro e w' ⟨rfl, rfl⟩; rw [hak]) | (go_at_call 25; refine (synDigit_any _ _).mono ?_; rintro e w' ⟨rfl, rfl⟩; rw [hdk]))
          go_ret3
          exact ⟨tri (by rw [HT.out]; rfl) rfl (by rw [HT.out]; exact congrArg Int.ofNat HN.out), rfl⟩
    · have HN : Hid (q + (1 + run alnum (s.data.toList.drop (q + 1))) = k) := by
        show q + (1 + run alnum (s.data.toList.drop (q + 1))) = k
        rw [← H.out, drop_nil s k hlt]; rfl
      go_wp2_with fail
      go_ret3
      exact ⟨tri (by rw [HT.out]; rfl) rfl (by rw [HT.out]; exact congrArg Int.ofNat HN.out), rfl⟩

set_option maxRecDepth 100000 in
set_option maxHeartbeats 2000000 in
theorem model_num1 (s : ByteArray) (p q : Nat) (w : World) (hs : s.size ≤ 1048576) (hp : p ≤ s.size) (HQ : Hid (mach (s.data.toList.drop p) 0 0 0 p = q)) (hq : q < s.size) (ha : alpha s[q] = false) (hd : dig s[q] = true) :
    Calls Try.prog 13 #[.string s, .int .i64 p] w (ModelPost w q (tokOf (s.data.toList.drop q))) := by
  unfold ModelPost
  have HT : Hid (tokOf (s.data.toList.drop q) = scanN (s.data.toList.drop q)) := tk_num1 hq ha hd
  have HNA : Hid (numA (s.data.toList.drop q) 0 q q false = ((scanN (s.data.toList.drop q)).2 + q, decide ((scanN (s.data.toList.drop q)).1 = 3))) := num_abs _ _ (Or.inl (by rw [drop_cons s q hq]; exact hd))
  have hkind := scanN_kind (s.data.toList.drop q)
  have te : ((q : Int) == (s.size : Int)) = false := by rw [beq_eq_false_iff_ne]; omega
  generalize tokOf (s.data.toList.drop q) = T at *
  go_enter Try.func13, Try.ntmps13
  go_wp2_with fail
  refine (skipModel_any s p _ hs hp).mono ?_
  rintro e w' ⟨rfl, rfl⟩
  rw [HQ.out]
  go_wp2_with (first | (go_at_call 29; refine (synAlpha_any _ _).mono ?_; rintro e w' ⟨rfl, rfl⟩; rw [ha]) | (go_at_call 25; refine (synDigit_any _ _).mono ?_; rintro e w' ⟨rfl, rfl⟩; rw [hd]))
  refine (numberModel_any s q _ hs (by omega)).mono ?_
  rintro e w' ⟨rfl, rfl⟩
  rw [HNA.out]
  rcases hkind with hk | hk
  · have hb : decide ((scanN (s.data.toList.drop q)).1 = 3) = false := decide_eq_false (by omega)
    have HK : Hid ((scanN (s.data.toList.drop q)).1 = 2) := hk
    rw [hb]
    generalize scanN (s.data.toList.drop q) = N at *
    clear hk hb
    go_wp2_with fail
    go_ret3
    exact ⟨tri (by rw [HT.out, HK.out]; rfl) rfl (by rw [HT.out]; omega), rfl⟩
  · have hb : decide ((scanN (s.data.toList.drop q)).1 = 3) = true := decide_eq_true (by omega)
    have HK : Hid ((scanN (s.data.toList.drop q)).1 = 3) := hk
    rw [hb]
    generalize scanN (s.data.toList.drop q) = N at *
    clear hk hb
    go_wp2_with fail
    go_ret3
    exact ⟨tri (by rw [HT.out, HK.out]; rfl) rfl (by rw [HT.out]; omega), rfl⟩

set_option maxRecDepth 100000 in
set_option maxHeartbeats 2000000 in
theorem model_num2 (s : ByteArray) (p q : Nat) (w : World) (hs : s.size ≤ 1048576) (hp : p ≤ s.size) (HQ : Hid (mach (s.data.toList.drop p) 0 0 0 p = q)) (hq : q + 1 < s.size) (hc : s[q] = 46) (hd1 : dig s[q + 1] = true) :
    Calls Try.prog 13 #[.string s, .int .i64 p] w (ModelPost w q (tokOf (s.data.toList.drop q))) := by
  unfold ModelPost
  have HT : Hid (tokOf (s.data.toList.drop q) = scanN (s.data.toList.drop q)) := tk_num2 hq hc hd1
  have HNA : Hid (numA (s.data.toList.drop q) 0 q q false = ((scanN (s.data.toList.drop q)).2 + q, decide ((scanN (s.data.toList.drop q)).1 = 3))) := num_abs _ _ (Or.inr ⟨s.data.toList.drop (q + 1), by rw [drop_cons s q (by omega), hc], by rw [drop_cons s (q + 1) hq]; exact hd1⟩)
  have ha : alpha s[q] = false := by rw [hc]; decide
  have hd : dig s[q] = false := by rw [hc]; decide
  have t46 : ((s[q].toNat : Int) == 46) = true := byte_eq hc
  clear hc
  have hkind := scanN_kind (s.data.toList.drop q)
  have te : ((q : Int) == (s.size : Int)) = false := by rw [beq_eq_false_iff_ne]; omega
  generalize tokOf (s.data.toList.drop q) = T at *
  go_enter Try.func13, Try.ntmps13
  go_wp2_with fail
  refine (skipModel_any s p _ hs hp).mono ?_
  rintro e w' ⟨rfl, rfl⟩
  rw [HQ.out]
  go_wp2_with (first | (go_at_call 29; refine (synAlpha_any _ _).mono ?_; rintro e w' ⟨rfl, rfl⟩; rw [ha]) | (go_at_call 25; refine (synDigit_any _ _).mono ?_; rintro e w' ⟨rfl, rfl⟩; first | rw [hd] | rw [hd1]))
  refine (numberModel_any s q _ hs (by omega)).mono ?_
  rintro e w' ⟨rfl, rfl⟩
  rw [HNA.out]
  rcases hkind with hk | hk
  · have hb : decide ((scanN (s.data.toList.drop q)).1 = 3) = false := decide_eq_false (by omega)
    have HK : Hid ((scanN (s.data.toList.drop q)).1 = 2) := hk
    rw [hb]
    generalize scanN (s.data.toList.drop q) = N at *
    clear hk hb
    go_wp2_with fail
    go_ret3
    exact ⟨tri (by rw [HT.out, HK.out]; rfl) rfl (by rw [HT.out]; omega), rfl⟩
  · have hb : decide ((scanN (s.data.toList.drop q)).1 = 3) = true := decide_eq_true (by omega)
    have HK : Hid ((scanN (s.data.toList.drop q)).1 = 3) := hk
    rw [hb]
    generalize scanN (s.data.toList.drop q) = N at *
    clear hk hb
    go_wp2_with fail
    go_ret3
    exact ⟨tri (by rw [HT.out, HK.out]; rfl) rfl (by rw [HT.out]; omega), rfl⟩

set_option maxRecDepth 100000 in
set_option maxHeartbeats 2000000 in
theorem model_str (s : ByteArray) (p q : Nat) (w : World) (hs : s.size ≤ 1048576) (hp : p ≤ s.size) (HQ : Hid (mach (s.data.toList.drop p) 0 0 0 p = q)) (hq : q < s.size) (hc : s[q] = 39) :
    Calls Try.prog 13 #[.string s, .int .i64 p] w (ModelPost w q (tokOf (s.data.toList.drop q))) := by
  unfold ModelPost
  have HT : Hid (tokOf (s.data.toList.drop q) = (if (strC (s.data.toList.drop (q + 1)) 1).1 then 4 else 7, (strC (s.data.toList.drop (q + 1)) 1).2)) := tk_str hq hc
  have HS : Hid (strP (s.data.toList.drop (q + 1)) false (q + 1) = ((strC (s.data.toList.drop (q + 1)) 1).1, (strC (s.data.toList.drop (q + 1)) 1).2 + q)) := str_abs _ _
  have ha : alpha s[q] = false := by rw [hc]; decide
  have hd : dig s[q] = false := by rw [hc]; decide
  have t46 : ((s[q].toNat : Int) == 46) = false := by rw [hc]; rfl
  have t39 : ((s[q].toNat : Int) == 39) = true := byte_eq hc
  have HC : Hid (s[q] = 39) := hc
  clear hc
  have te : ((q : Int) == (s.size : Int)) = false := by rw [beq_eq_false_iff_ne]; omega
  generalize tokOf (s.data.toList.drop q) = T at *
  go_enter Try.func13, Try.ntmps13
  go_wp2_with fail
  refine (skipModel_any s p _ hs hp).mono ?_
  rintro e w' ⟨rfl, rfl⟩
  rw [HQ.out]
  go_wp2_with (first | (go_at_call 29; refine (synAlpha_any _ _).mono ?_; rintro e w' ⟨rfl, rfl⟩; rw [ha]) | (go_at_call 25; refine (synDigit_any _ _).mono ?_; rintro e w' ⟨rfl, rfl⟩; rw [hd]))
  refine (stringModel_any s q _ hs hq HC.out).mono ?_
  rintro e w' ⟨rfl, rfl⟩
  rw [HS.out]
  obtain ⟨b, hb⟩ : ∃ b, (strC (s.data.toList.drop (q + 1)) 1).1 = b := ⟨_, rfl⟩
  have HB : Hid ((strC (s.data.toList.drop (q + 1)) 1).1 = b) := hb
  rw [hb]
  clear hb
  generalize strC (s.data.toList.drop (q + 1)) 1 = N at *
  cases b with
  | true =>
    go_wp2_with fail
    go_ret3
    exact ⟨tri (by rw [HT.out, HB.out]; rfl) rfl (by rw [HT.out]; omega), rfl⟩
  | false =>
    go_wp2_with fail
    go_ret3
    exact ⟨tri (by rw [HT.out, HB.out]; rfl) rfl (by rw [HT.out]; omega), rfl⟩

set_option maxRecDepth 100000 in
set_option maxHeartbeats 2000000 in
theorem model_ph (s : ByteArray) (p q : Nat) (w : World) (hs : s.size ≤ 1048576) (hp : p ≤ s.size) (HQ : Hid (mach (s.data.toList.drop p) 0 0 0 p = q)) (hq : q + 1 < s.size) (hc : s[q] = 36) (hd1 : dig s[q + 1] = true) :
    Calls Try.prog 13 #[.string s, .int .i64 p] w (ModelPost w q (tokOf (s.data.toList.drop q))) := by
  unfold ModelPost
  have HT : Hid (tokOf (s.data.toList.drop q) = (5, 1 + run dig (s.data.toList.drop (q + 1)))) := tk_ph hq hc hd1
  have ha : alpha s[q] = false := by rw [hc]; decide
  have hd : dig s[q] = false := by rw [hc]; decide
  have t46 : ((s[q].toNat : Int) == 46) = false := by rw [hc]; rfl
  have t39 : ((s[q].toNat : Int) == 39) = false := by rw [hc]; rfl
  have t36 : ((s[q].toNat : Int) == 36) = true := byte_eq hc
  clear hc
  have te : ((q : Int) == (s.size : Int)) = false := by rw [beq_eq_false_iff_ne]; omega
  generalize tokOf (s.data.toList.drop q) = T at *
  go_enter Try.func13, Try.ntmps13
  go_wp2_with fail
  refine (skipModel_any s p _ hs hp).mono ?_
  rintro e w' ⟨rfl, rfl⟩
  rw [HQ.out]
  go_wp2_with (first | (go_at_call 29; refine (synAlpha_any _ _).mono ?_; rintro e w' ⟨rfl, rfl⟩; rw [ha]) | (go_at_call 25; refine (synDigit_any _ _).mono ?_; rintro e w' ⟨rfl, rfl⟩; first | rw [hd] | rw [hd1]))
  go_loop [15] (fun ev => ∃ k : Nat, q + 1 ≤ k ∧ k ≤ s.size ∧ ev = .int .i64 k ∧ Hid (k + run dig (s.data.toList.drop k) = q + (1 + run dig (s.data.toList.drop (q + 1))))) (fun ev => s.size - (intOf ev).toNat)
  case atStart => exact ⟨q + 1, by omega, by omega, by go_num, by show q + 1 + run dig (s.data.toList.drop (q + 1)) = q + (1 + run dig (s.data.toList.drop (q + 1))); omega⟩
  case round =>
    obtain ⟨k, hk1, hk, rfl, H⟩ := hrel
    by_cases hlt : k < s.size
    · cases hdk : dig s[k] with
      | true =>
        have HN : Hid (k + 1 + run dig (s.data.toList.drop (k + 1)) = q + (1 + run dig (s.data.toList.drop (q + 1)))) := by
          show k + 1 + run dig (s.data.toList.drop (k + 1)) = q + (1 + run dig (s.data.toList.drop (q + 1)))
          rw [← H.out, drop_cons s k hlt, run_yes _ hdk]; omega
        go_wp2_with (go_at_call 25; refine (synDigit_any _ _).mono ?_; rintro e w' ⟨rfl, rfl⟩; rw [hdk])
        go_round
        case rel => exact ⟨k + 1, by omega, by omega, by go_num, HN⟩
        case measure => simp [intOf]; omega
      | false =>
        have HN : Hid (q + (1 + run dig (s.data.toList.drop (q + 1))) = k) := by
          show q + (1 + run dig (s.data.toList.drop (q + 1))) = k
          rw [← H.out, drop_cons s k hlt, run_no _ (by simp [hdk])]; rfl
        go_wp2_with (go_at_call 25; refine (synDigit_any _ _).mono ?_; rintro e w' ⟨rfl, rfl⟩; rw [hdk])
        go_ret3
        exact ⟨tri (by rw [HT.out]; rfl) rfl (by rw [HT.out]; exact congrArg Int.ofNat HN.out), rfl⟩
    · have HN : Hid (q + (1 + run dig (s.data.toList.drop (q + 1))) = k) := by
        show q + (1 + run dig (s.data.toList.drop (q + 1))) = k
        rw [← H.out, drop_nil s k hlt]; rfl
      go_wp2_with fail
      go_ret3
      exact ⟨tri (by rw [HT.out]; rfl) rfl (by rw [HT.out]; exact congrArg Int.ofNat HN.out), rfl⟩

set_option maxRecDepth 100000 in
set_option maxHeartbeats 2000000 in
theorem model_cmt (s : ByteArray) (p q : Nat) (w : World) (hs : s.size ≤ 1048576) (hp : p ≤ s.size) (HQ : Hid (mach (s.data.toList.drop p) 0 0 0 p = q)) (hq : q + 1 < s.size) (hc : s[q] = 47) (hn : s[q + 1] = 42) :
    Calls Try.prog 13 #[.string s, .int .i64 p] w (ModelPost w q (tokOf (s.data.toList.drop q))) := by
  unfold ModelPost
  have HT : Hid (tokOf (s.data.toList.drop q) = (7, s.size - q)) := tk_cmt hq hc hn
  have ha : alpha s[q] = false := by rw [hc]; decide
  have hd : dig s[q] = false := by rw [hc]; decide
  have t46 : ((s[q].toNat : Int) == 46) = false := by rw [hc]; rfl
  have t39 : ((s[q].toNat : Int) == 39) = false := by rw [hc]; rfl
  have t36 : ((s[q].toNat : Int) == 36) = false := by rw [hc]; rfl
  have t47 : ((s[q].toNat : Int) == 47) = true := byte_eq hc
  have u42 : ((s[q + 1].toNat : Int) == 42) = true := byte_eq hn
  clear hc hn
  have te : ((q : Int) == (s.size : Int)) = false := by rw [beq_eq_false_iff_ne]; omega
  generalize tokOf (s.data.toList.drop q) = T at *
  go_enter Try.func13, Try.ntmps13
  go_wp2_with fail
  refine (skipModel_any s p _ hs hp).mono ?_
  rintro e w' ⟨rfl, rfl⟩
  rw [HQ.out]
  go_wp2_with (first | (go_at_call 29; refine (synAlpha_any _ _).mono ?_; rintro e w' ⟨rfl, rfl⟩; rw [ha]) | (go_at_call 25; refine (synDigit_any _ _).mono ?_; rintro e w' ⟨rfl, rfl⟩; rw [hd]))
  go_ret3
  exact ⟨tri (by rw [HT.out]; rfl) rfl (by rw [HT.out]; omega), rfl⟩

set_option maxRecDepth 100000 in
set_option maxHeartbeats 2000000 in
theorem model_r46a (s : ByteArray) (p q : Nat) (w : World) (hs : s.size ≤ 1048576) (hp : p ≤ s.size) (HQ : Hid (mach (s.data.toList.drop p) 0 0 0 p = q)) (r : Rest s q) (hq : q < s.size) (hc : s[q] = 46) (hq1 : q + 1 < s.size) :
    Calls Try.prog 13 #[.string s, .int .i64 p] w (ModelPost w q (tokOf (s.data.toList.drop q))) := by
  unfold ModelPost
  have HT : Hid (tokOf (s.data.toList.drop q) = if 0 < punct (s.data.toList.drop q) then (6, punct (s.data.toList.drop q)) else (7, 1)) := tk_rest r
  have hpl := punct_le (s.data.toList.drop q)
  rw [List.length_drop, ← Lib.size_eq] at hpl
  have ha : alpha s[q] = false := r.notAlpha
  have hd : dig s[q] = false := r.notDig
  have t39 : ((s[q].toNat : Int) == 39) = false := byte_ne r.quote
  have t46 : ((s[q].toNat : Int) == 46) = true := byte_eq hc
  have t36 : ((s[q].toNat : Int) == 36) = false := by rw [hc]; rfl
  have t47 : ((s[q].toNat : Int) == 47) = false := by rw [hc]; rfl
  have hd1 : dig s[q + 1] = false := r.dot hc hq1
  clear r hc
  have te : ((q : Int) == (s.size : Int)) = false := by rw [beq_eq_false_iff_ne]; omega
  generalize tokOf (s.data.toList.drop q) = T at *
  go_enter Try.func13, Try.ntmps13
  go_wp2_with fail
  refine (skipModel_any s p _ hs hp).mono ?_
  rintro e w' ⟨rfl, rfl⟩
  rw [HQ.out]
  go_wp2_with (first | (go_at_call 29; refine (synAlpha_any _ _).mono ?_; rintro e w' ⟨rfl, rfl⟩; rw [ha]) | (go_at_call 25; refine (synDigit_any _ _).mono ?_; rintro e w' ⟨rfl, rfl⟩; first | rw [hd] | rw [hd1]))
  refine (punctLen_any s q _ hs hq).mono ?_
  rintro e w' ⟨rfl, rfl⟩
  generalize punct (s.data.toList.drop q) = P at *
  by_cases hP : 0 < P
  · have HT' : Hid (T = (6, P)) := by
      show T = (6, P)
      rw [HT.out, if_pos hP]
    go_wp2_with fail
    go_ret3
    exact ⟨tri (by rw [HT'.out]; rfl) rfl (by rw [HT'.out]; omega), rfl⟩
  · have HT' : Hid (T = (7, 1)) := by
      show T = (7, 1)
      rw [HT.out, if_neg hP]
    go_wp2_with fail
    go_ret3
    exact ⟨tri (by rw [HT'.out]; rfl) rfl (by rw [HT'.out]; rfl), rfl⟩

set_option maxRecDepth 100000 in
set_option maxHeartbeats 2000000 in
theorem model_r46b (s : ByteArray) (p q : Nat) (w : World) (hs : s.size ≤ 1048576) (hp : p ≤ s.size) (HQ : Hid (mach (s.data.toList.drop p) 0 0 0 p = q)) (r : Rest s q) (hq : q < s.size) (hc : s[q] = 46) (hq1 : ¬ q + 1 < s.size) :
    Calls Try.prog 13 #[.string s, .int .i64 p] w (ModelPost w q (tokOf (s.data.toList.drop q))) := by
  unfold ModelPost
  have HT : Hid (tokOf (s.data.toList.drop q) = if 0 < punct (s.data.toList.drop q) then (6, punct (s.data.toList.drop q)) else (7, 1)) := tk_rest r
  have hpl := punct_le (s.data.toList.drop q)
  rw [List.length_drop, ← Lib.size_eq] at hpl
  have ha : alpha s[q] = false := r.notAlpha
  have hd : dig s[q] = false := r.notDig
  have t39 : ((s[q].toNat : Int) == 39) = false := byte_ne r.quote
  have t46 : ((s[q].toNat : Int) == 46) = true := byte_eq hc
  have t36 : ((s[q].toNat : Int) == 36) = false := by rw [hc]; rfl
  have t47 : ((s[q].toNat : Int) == 47) = false := by rw [hc]; rfl
  clear r hc
  have te : ((q : Int) == (s.size : Int)) = false := by rw [beq_eq_false_iff_ne]; omega
  generalize tokOf (s.data.toList.drop q) = T at *
  go_enter Try.func13, Try.ntmps13
  go_wp2_with fail
  refine (skipModel_any s p _ hs hp).mono ?_
  rintro e w' ⟨rfl, rfl⟩
  rw [HQ.out]
  go_wp2_with (first | (go_at_call 29; refine (synAlpha_any _ _).mono ?_; rintro e w' ⟨rfl, rfl⟩; rw [ha]) | (go_at_call 25; refine (synDigit_any _ _).mono ?_; rintro e w' ⟨rfl, rfl⟩; rw [hd]))
  refine (punctLen_any s q _ hs hq).mono ?_
  rintro e w' ⟨rfl, rfl⟩
  generalize punct (s.data.toList.drop q) = P at *
  by_cases hP : 0 < P
  · have HT' : Hid (T = (6, P)) := by
      show T = (6, P)
      rw [HT.out, if_pos hP]
    go_wp2_with fail
    go_ret3
    exact ⟨tri (by rw [HT'.out]; rfl) rfl (by rw [HT'.out]; omega), rfl⟩
  · have HT' : Hid (T = (7, 1)) := by
      show T = (7, 1)
      rw [HT.out, if_neg hP]
    go_wp2_with fail
    go_ret3
    exact ⟨tri (by rw [HT'.out]; rfl) rfl (by rw [HT'.out]; rfl), rfl⟩

set_option maxRecDepth 100000 in
set_option maxHeartbeats 2000000 in
theorem model_r36a (s : ByteArray) (p q : Nat) (w : World) (hs : s.size ≤ 1048576) (hp : p ≤ s.size) (HQ : Hid (mach (s.data.toList.drop p) 0 0 0 p = q)) (r : Rest s q) (hq : q < s.size) (hc : s[q] = 36) (hq1 : q + 1 < s.size) :
    Calls Try.prog 13 #[.string s, .int .i64 p] w (ModelPost w q (tokOf (s.data.toList.drop q))) := by
  unfold ModelPost
  have HT : Hid (tokOf (s.data.toList.drop q) = if 0 < punct (s.data.toList.drop q) then (6, punct (s.data.toList.drop q)) else (7, 1)) := tk_rest r
  have hpl := punct_le (s.data.toList.drop q)
  rw [List.length_drop, ← Lib.size_eq] at hpl
  have ha : alpha s[q] = false := r.notAlpha
  have hd : dig s[q] = false := r.notDig
  have t39 : ((s[q].toNat : Int) == 39) = false := byte_ne r.quote
  have t46 : ((s[q].toNat : Int) == 46) = false := by rw [hc]; rfl
  have t36 : ((s[q].toNat : Int) == 36) = true := byte_eq hc
  have t47 : ((s[q].toNat : Int) == 47) = false := by rw [hc]; rfl
  have hd1 : dig s[q + 1] = false := r.dollar hc hq1
  clear r hc
  have te : ((q : Int) == (s.size : Int)) = false := by rw [beq_eq_false_iff_ne]; omega
  generalize tokOf (s.data.toList.drop q) = T at *
  go_enter Try.func13, Try.ntmps13
  go_wp2_with fail
  refine (skipModel_any s p _ hs hp).mono ?_
  rintro e w' ⟨rfl, rfl⟩
  rw [HQ.out]
  go_wp2_with (first | (go_at_call 29; refine (synAlpha_any _ _).mono ?_; rintro e w' ⟨rfl, rfl⟩; rw [ha]) | (go_at_call 25; refine (synDigit_any _ _).mono ?_; rintro e w' ⟨rfl, rfl⟩; first | rw [hd] | rw [hd1]))
  refine (punctLen_any s q _ hs hq).mono ?_
  rintro e w' ⟨rfl, rfl⟩
  generalize punct (s.data.toList.drop q) = P at *
  by_cases hP : 0 < P
  · have HT' : Hid (T = (6, P)) := by
      show T = (6, P)
      rw [HT.out, if_pos hP]
    go_wp2_with fail
    go_ret3
    exact ⟨tri (by rw [HT'.out]; rfl) rfl (by rw [HT'.out]; omega), rfl⟩
  · have HT' : Hid (T = (7, 1)) := by
      show T = (7, 1)
      rw [HT.out, if_neg hP]
    go_wp2_with fail
    go_ret3
    exact ⟨tri (by rw [HT'.out]; rfl) rfl (by rw [HT'.out]; rfl), rfl⟩

set_option maxRecDepth 100000 in
set_option maxHeartbeats 2000000 in
theorem model_r36b (s : ByteArray) (p q : Nat) (w : World) (hs : s.size ≤ 1048576) (hp : p ≤ s.size) (HQ : Hid (mach (s.data.toList.drop p) 0 0 0 p = q)) (r : Rest s q) (hq : q < s.size) (hc : s[q] = 36) (hq1 : ¬ q + 1 < s.size) :
    Calls Try.prog 13 #[.string s, .int .i64 p] w (ModelPost w q (tokOf (s.data.toList.drop q))) := by
  unfold ModelPost
  have HT : Hid (tokOf (s.data.toList.drop q) = if 0 < punct (s.data.toList.drop q) then (6, punct (s.data.toList.drop q)) else (7, 1)) := tk_rest r
  have hpl := punct_le (s.data.toList.drop q)
  rw [List.length_drop, ← Lib.size_eq] at hpl
  have ha : alpha s[q] = false := r.notAlpha
  have hd : dig s[q] = false := r.notDig
  have t39 : ((s[q].toNat : Int) == 39) = false := byte_ne r.quote
  have t46 : ((s[q].toNat : Int) == 46) = false := by rw [hc]; rfl
  have t36 : ((s[q].toNat : Int) == 36) = true := byte_eq hc
  have t47 : ((s[q].toNat : Int) == 47) = false := by rw [hc]; rfl
  clear r hc
  have te : ((q : Int) == (s.size : Int)) = false := by rw [beq_eq_false_iff_ne]; omega
  generalize tokOf (s.data.toList.drop q) = T at *
  go_enter Try.func13, Try.ntmps13
  go_wp2_with fail
  refine (skipModel_any s p _ hs hp).mono ?_
  rintro e w' ⟨rfl, rfl⟩
  rw [HQ.out]
  go_wp2_with (first | (go_at_call 29; refine (synAlpha_any _ _).mono ?_; rintro e w' ⟨rfl, rfl⟩; rw [ha]) | (go_at_call 25; refine (synDigit_any _ _).mono ?_; rintro e w' ⟨rfl, rfl⟩; rw [hd]))
  refine (punctLen_any s q _ hs hq).mono ?_
  rintro e w' ⟨rfl, rfl⟩
  generalize punct (s.data.toList.drop q) = P at *
  by_cases hP : 0 < P
  · have HT' : Hid (T = (6, P)) := by
      show T = (6, P)
      rw [HT.out, if_pos hP]
    go_wp2_with fail
    go_ret3
    exact ⟨tri (by rw [HT'.out]; rfl) rfl (by rw [HT'.out]; omega), rfl⟩
  · have HT' : Hid (T = (7, 1)) := by
      show T = (7, 1)
      rw [HT.out, if_neg hP]
    go_wp2_with fail
    go_ret3
    exact ⟨tri (by rw [HT'.out]; rfl) rfl (by rw [HT'.out]; rfl), rfl⟩

set_option maxRecDepth 100000 in
set_option maxHeartbeats 2000000 in
theorem model_r47a (s : ByteArray) (p q : Nat) (w : World) (hs : s.size ≤ 1048576) (hp : p ≤ s.size) (HQ : Hid (mach (s.data.toList.drop p) 0 0 0 p = q)) (r : Rest s q) (hq : q < s.size) (hc : s[q] = 47) (hq1 : q + 1 < s.size) :
    Calls Try.prog 13 #[.string s, .int .i64 p] w (ModelPost w q (tokOf (s.data.toList.drop q))) := by
  unfold ModelPost
  have HT : Hid (tokOf (s.data.toList.drop q) = if 0 < punct (s.data.toList.drop q) then (6, punct (s.data.toList.drop q)) else (7, 1)) := tk_rest r
  have hpl := punct_le (s.data.toList.drop q)
  rw [List.length_drop, ← Lib.size_eq] at hpl
  have ha : alpha s[q] = false := r.notAlpha
  have hd : dig s[q] = false := r.notDig
  have t39 : ((s[q].toNat : Int) == 39) = false := byte_ne r.quote
  have t46 : ((s[q].toNat : Int) == 46) = false := by rw [hc]; rfl
  have t36 : ((s[q].toNat : Int) == 36) = false := by rw [hc]; rfl
  have t47 : ((s[q].toNat : Int) == 47) = true := byte_eq hc
  have u42 : ((s[q + 1].toNat : Int) == 42) = false := byte_ne (r.slash hc hq1)
  clear r hc
  have te : ((q : Int) == (s.size : Int)) = false := by rw [beq_eq_false_iff_ne]; omega
  generalize tokOf (s.data.toList.drop q) = T at *
  go_enter Try.func13, Try.ntmps13
  go_wp2_with fail
  refine (skipModel_any s p _ hs hp).mono ?_
  rintro e w' ⟨rfl, rfl⟩
  rw [HQ.out]
  go_wp2_with (first | (go_at_call 29; refine (synAlpha_any _ _).mono ?_; rintro e w' ⟨rfl, rfl⟩; rw [ha]) | (go_at_call 25; refine (synDigit_any _ _).mono ?_; rintro e w' ⟨rfl, rfl⟩; rw [hd]))
  refine (punctLen_any s q _ hs hq).mono ?_
  rintro e w' ⟨rfl, rfl⟩
  generalize punct (s.data.toList.drop q) = P at *
  by_cases hP : 0 < P
  · have HT' : Hid (T = (6, P)) := by
      show T = (6, P)
      rw [HT.out, if_pos hP]
    go_wp2_with fail
    go_ret3
    exact ⟨tri (by rw [HT'.out]; rfl) rfl (by rw [HT'.out]; omega), rfl⟩
  · have HT' : Hid (T = (7, 1)) := by
      show T = (7, 1)
      rw [HT.out, if_neg hP]
    go_wp2_with fail
    go_ret3
    exact ⟨tri (by rw [HT'.out]; rfl) rfl (by rw [HT'.out]; rfl), rfl⟩

set_option maxRecDepth 100000 in
set_option maxHeartbeats 2000000 in
theorem model_r47b (s : ByteArray) (p q : Nat) (w : World) (hs : s.size ≤ 1048576) (hp : p ≤ s.size) (HQ : Hid (mach (s.data.toList.drop p) 0 0 0 p = q)) (r : Rest s q) (hq : q < s.size) (hc : s[q] = 47) (hq1 : ¬ q + 1 < s.size) :
    Calls Try.prog 13 #[.string s, .int .i64 p] w (ModelPost w q (tokOf (s.data.toList.drop q))) := by
  unfold ModelPost
  have HT : Hid (tokOf (s.data.toList.drop q) = if 0 < punct (s.data.toList.drop q) then (6, punct (s.data.toList.drop q)) else (7, 1)) := tk_rest r
  have hpl := punct_le (s.data.toList.drop q)
  rw [List.length_drop, ← Lib.size_eq] at hpl
  have ha : alpha s[q] = false := r.notAlpha
  have hd : dig s[q] = false := r.notDig
  have t39 : ((s[q].toNat : Int) == 39) = false := byte_ne r.quote
  have t46 : ((s[q].toNat : Int) == 46) = false := by rw [hc]; rfl
  have t36 : ((s[q].toNat : Int) == 36) = false := by rw [hc]; rfl
  have t47 : ((s[q].toNat : Int) == 47) = true := byte_eq hc
  clear r hc
  have te : ((q : Int) == (s.size : Int)) = false := by rw [beq_eq_false_iff_ne]; omega
  generalize tokOf (s.data.toList.drop q) = T at *
  go_enter Try.func13, Try.ntmps13
  go_wp2_with fail
  refine (skipModel_any s p _ hs hp).mono ?_
  rintro e w' ⟨rfl, rfl⟩
  rw [HQ.out]
  go_wp2_with (first | (go_at_call 29; refine (synAlpha_any _ _).mono ?_; rintro e w' ⟨rfl, rfl⟩; rw [ha]) | (go_at_call 25; refine (synDigit_any _ _).mono ?_; rintro e w' ⟨rfl, rfl⟩; rw [hd]))
  refine (punctLen_any s q _ hs hq).mono ?_
  rintro e w' ⟨rfl, rfl⟩
  generalize punct (s.data.toList.drop q) = P at *
  by_cases hP : 0 < P
  · have HT' : Hid (T = (6, P)) := by
      show T = (6, P)
      rw [HT.out, if_pos hP]
    go_wp2_with fail
    go_ret3
    exact ⟨tri (by rw [HT'.out]; rfl) rfl (by rw [HT'.out]; omega), rfl⟩
  · have HT' : Hid (T = (7, 1)) := by
      show T = (7, 1)
      rw [HT.out, if_neg hP]
    go_wp2_with fail
    go_ret3
    exact ⟨tri (by rw [HT'.out]; rfl) rfl (by rw [HT'.out]; rfl), rfl⟩

set_option maxRecDepth 100000 in
set_option maxHeartbeats 2000000 in
theorem model_r0 (s : ByteArray) (p q : Nat) (w : World) (hs : s.size ≤ 1048576) (hp : p ≤ s.size) (HQ : Hid (mach (s.data.toList.drop p) 0 0 0 p = q)) (r : Rest s q) (hq : q < s.size) (h46 : ¬ s[q] = 46) (h36 : ¬ s[q] = 36) (h47 : ¬ s[q] = 47) :
    Calls Try.prog 13 #[.string s, .int .i64 p] w (ModelPost w q (tokOf (s.data.toList.drop q))) := by
  unfold ModelPost
  have HT : Hid (tokOf (s.data.toList.drop q) = if 0 < punct (s.data.toList.drop q) then (6, punct (s.data.toList.drop q)) else (7, 1)) := tk_rest r
  have hpl := punct_le (s.data.toList.drop q)
  rw [List.length_drop, ← Lib.size_eq] at hpl
  have ha : alpha s[q] = false := r.notAlpha
  have hd : dig s[q] = false := r.notDig
  have t39 : ((s[q].toNat : Int) == 39) = false := byte_ne r.quote
  have t46 : ((s[q].toNat : Int) == 46) = false := byte_ne h46
  have t36 : ((s[q].toNat : Int) == 36) = false := byte_ne h36
  have t47 : ((s[q].toNat : Int) == 47) = false := byte_ne h47
  clear r h46 h36 h47
  have te : ((q : Int) == (s.size : Int)) = false := by rw [beq_eq_false_iff_ne]; omega
  generalize tokOf (s.data.toList.drop q) = T at *
  go_enter Try.func13, Try.ntmps13
  go_wp2_with fail
  refine (skipModel_any s p _ hs hp).mono ?_
  rintro e w' ⟨rfl, rfl⟩
  rw [HQ.out]
  go_wp2_with (first | (go_at_call 29; refine (synAlpha_any _ _).mono ?_; rintro e w' ⟨rfl, rfl⟩; rw [ha]) | (go_at_call 25; refine (synDigit_any _ _).mono ?_; rintro e w' ⟨rfl, rfl⟩; rw [hd]))
  refine (punctLen_any s q _ hs hq).mono ?_
  rintro e w' ⟨rfl, rfl⟩
  generalize punct (s.data.toList.drop q) = P at *
  by_cases hP : 0 < P
  · have HT' : Hid (T = (6, P)) := by
      show T = (6, P)
      rw [HT.out, if_pos hP]
    go_wp2_with fail
    go_ret3
    exact ⟨tri (by rw [HT'.out]; rfl) rfl (by rw [HT'.out]; omega), rfl⟩
  · have HT' : Hid (T = (7, 1)) := by
      show T = (7, 1)
      rw [HT.out, if_neg hP]
    go_wp2_with fail
    go_ret3
    exact ⟨tri (by rw [HT'.out]; rfl) rfl (by rw [HT'.out]; rfl), rfl⟩

/-- THE MODEL's CONTRACT. -/
theorem nextModel_any (s : ByteArray) (p q : Nat) (w : World) (hs : s.size ≤ 1048576) (hp : p ≤ s.size) (hq : q ≤ s.size) (HQ : Hid (mach (s.data.toList.drop p) 0 0 0 p = q)) :
    Calls Try.prog 13 #[.string s, .int .i64 p] w (ModelPost w q (tokOf (s.data.toList.drop q))) := by
  by_cases hlt : q < s.size
  · rcases tk_cases hlt with h | ⟨h1, h2⟩ | ⟨h1, h2, h3⟩ | h | ⟨h1, h2, h3⟩ | ⟨h1, h2, h3⟩ | r
    · exact model_alpha s p q w hs hp HQ hlt h
    · exact model_num1 s p q w hs hp HQ hlt h1 h2
    · exact model_num2 s p q w hs hp HQ h1 h2 h3
    · exact model_str s p q w hs hp HQ hlt h
    · exact model_ph s p q w hs hp HQ h1 h2 h3
    · exact model_cmt s p q w hs hp HQ h1 h2 h3
    · by_cases c46 : s[q] = 46
      · by_cases h1 : q + 1 < s.size
        · exact model_r46a s p q w hs hp HQ r hlt c46 h1
        · exact model_r46b s p q w hs hp HQ r hlt c46 h1
      by_cases c36 : s[q] = 36
      · by_cases h1 : q + 1 < s.size
        · exact model_r36a s p q w hs hp HQ r hlt c36 h1
        · exact model_r36b s p q w hs hp HQ r hlt c36 h1
      by_cases c47 : s[q] = 47
      · by_cases h1 : q + 1 < s.size
        · exact model_r47a s p q w hs hp HQ r hlt c47 h1
        · exact model_r47b s p q w hs hp HQ r hlt c47 h1
      exact model_r0 s p q w hs hp HQ r hlt c46 c36 c47
  · exact model_eof s p q w hs hp HQ hq hlt
end Go.Proofs.Qxb6601015a.SK
