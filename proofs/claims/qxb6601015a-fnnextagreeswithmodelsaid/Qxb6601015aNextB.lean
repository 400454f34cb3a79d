/-
  THE WALK of (*Lexer).Next (28): a name; a placeholder.
-/
import Derived.Test.Qxb6601015aNextA
import Derived.Deep.LoopGhost
import Derived.BigQuiet
namespace Go.Proofs.Qxb6601015a.SK
open Go Go.RowKit

set_option maxRecDepth 100000 in
set_option maxHeartbeats 4000000 in
theorem next_alpha (s : ByteArray) (p b q : Nat) (w : World) (hs : s.size ≤ 1048576) (hp : p ≤ s.size) (hb : b < w.heap.size)
    (h0 : w.cell? ⟨b, 0, none⟩ = some (.string s)) (h1 : w.cell? ⟨b, 1, none⟩ = some (.int .i64 p)) (hf : w.frozen? ⟨b, 1, none⟩ = false) (HQ : Hid (mach (s.data.toList.drop p) 0 0 0 p = q))
    (hq : q < s.size) (ha : alpha s[q] = true) :
    Calls Try.prog 28 #[.pointer (some ⟨b, 0, none⟩)] w (NextPost w b s q (tokOf (s.data.toList.drop q))) := by
  have HT : Hid (tokOf (s.data.toList.drop q) = (1, 1 + run alnum (s.data.toList.drop (q + 1)))) := tk_alpha hq ha
  have te : ((q : Int) == (s.size : Int)) = false := by rw [beq_eq_false_iff_ne]; omega
  have hcall := skip_at s p b q w hs hp hb h0 h1 hf HQ
  unfold tok0 at hcall
  unfold NextPost
  generalize tokOf (s.data.toList.drop q) = T at *
  clear h0 h1 hf HQ
  have hne : ¬ b = w.heap.size := by omega
  have hne' : ¬ w.heap.size = b := by omega
  have hq' : (q : Int) ≤ (s.size : Int) := by omega
  go_enter Try.func28, Try.ntmps28
  go_wp2_with fail
  refine hcall.mono ?_
  clear hcall
  rintro e w1 ⟨rfl, HA⟩
  obtain ⟨g0, g1, gf, ho, r0, r1, r2, f0, f1, f2⟩ := id HA
  go_wp2_with (go_at_call 35; refine (isLetter_val ha _).mono ?_; rintro e w' ⟨rfl, rfl⟩)
  go_loopg [] s.size (fun g wr => ∃ k : Nat, q + 1 ≤ k ∧ k ≤ s.size ∧ s.size - k ≤ g ∧ At w wr b s k ∧ Hid (k + run alnum (s.data.toList.drop k) = q + (1 + run alnum (s.data.toList.drop (q + 1)))))
  case atStart => exact ⟨q + 1, by omega, by omega, by omega, HA.next hb (HA.lex.set _) (by omega), by show q + 1 + run alnum (s.data.toList.drop (q + 1)) = q + (1 + run alnum (s.data.toList.drop (q + 1))); omega⟩
  case round =>
    clear g0 g1 gf ho r0 r1 r2 f0 f1 f2 HA
    obtain ⟨k, hk1, hk, hg, HA, H⟩ := hrel
    obtain ⟨g0, g1, gf, ho, r0, r1, r2, f0, f1, f2⟩ := id HA
    have hqk' : (q : Int) ≤ (k : Int) := by omega
    have hks' : (k : Int) ≤ (s.size : Int) := by omega
    by_cases hlt : k < s.size
    · have hlt' : (k : Int) < (s.size : Int) := by omega
      cases hak : alpha s[k] with
      | true =>
        have HN : Hid (k + 1 + run alnum (s.data.toList.drop (k + 1)) = q + (1 + run alnum (s.data.toList.drop (q + 1)))) := by
          show k + 1 + run alnum (s.data.toList.drop (k + 1)) = q + (1 + run alnum (s.data.toList.drop (q + 1)))
          rw [← H.out, drop_cons s k hlt, run_yes _ (show alnum s[k] = true from by simp [alnum, hak])]; omega
        go_wp2_with fail
        go_quiet ((go_at_call 35; exact Calls.quiet_of_same (isLetter_val hak _)))
        go_wp2_with fail
        go_roundg (s.size - (k + 1))
        case measure => omega
        case rel => exact ⟨k + 1, by omega, by omega, by omega, HA.next hb ((HA.lex.drew _).set _) (by omega), HN⟩
      | false =>
        cases hdk : dig s[k] with
        | true =>
          have HN : Hid (k + 1 + run alnum (s.data.toList.drop (k + 1)) = q + (1 + run alnum (s.data.toList.drop (q + 1)))) := by
            show k + 1 + run alnum (s.data.toList.drop (k + 1)) = q + (1 + run alnum (s.data.toList.drop (q + 1)))
            rw [← H.out, drop_cons s k hlt, run_yes _ (show alnum s[k] = true from by simp [alnum, hdk])]; omega
          go_wp2_with fail
          go_quiet (first | (go_at_call 35; exact Calls.quiet_of_same (isLetter_val hak _)) | (go_at_call 36; exact Calls.quiet_of_same (isDigit_val hdk _)))
          go_wp2_with fail
          go_roundg (s.size - (k + 1))
          case measure => omega
          case rel => exact ⟨k + 1, by omega, by omega, by omega, HA.next hb ((HA.lex.drew _).set _) (by omega), HN⟩
        | false =>
          have HN : Hid (q + (1 + run alnum (s.data.toList.drop (q + 1))) = k) := by
            show q + (1 + run alnum (s.data.toList.drop (q + 1))) = k
            rw [← H.out, drop_cons s k hlt, run_no _ (show ¬ alnum s[k] = true from by simp [alnum, hak, hdk])]; rfl
          go_wp2_with fail
          go_quiet (first | (go_at_call 35; exact Calls.quiet_of_same (isLetter_val hak _)) | (go_at_call 36; exact Calls.quiet_of_same (isDigit_val hdk _)))
          go_wp2_with fail
          have HK := HN.out
          go_region
          go_wp2_with fail
          refine bodyPost_ret (v := .agg #[.int .i64 1, .string (s.extract q k), .int .i64 q]) (by simp [results, Try.results28, go_sem, r0, r1, r2]) rfl ?_
          refine ⟨_, by rw [HT.out]; rfl, ?_⟩
          exact next_postN hb (HA.next hb (HA.lex.drew _) (k' := k) rfl) (len := 1 + run alnum (s.data.toList.drop (q + 1))) (by rw [HT.out]) (by omega) (text_len (by omega))
    · have hltd : decide ((k : Int) < (s.size : Int)) = false := by simp; omega
      have HN : Hid (q + (1 + run alnum (s.data.toList.drop (q + 1))) = k) := by
        show q + (1 + run alnum (s.data.toList.drop (q + 1))) = k
        rw [← H.out, drop_nil s k hlt]; rfl
      go_wp2_with fail
      go_quiet (fail)
      go_wp2_with fail
      have HK := HN.out
      go_region
      go_wp2_with fail
      refine bodyPost_ret (v := .agg #[.int .i64 1, .string (s.extract q k), .int .i64 q]) (by simp [results, Try.results28, go_sem, r0, r1, r2]) rfl ?_
      refine ⟨_, by rw [HT.out]; rfl, ?_⟩
      exact next_postN hb (HA.next hb (HA.lex.drew _) (k' := k) rfl) (len := 1 + run alnum (s.data.toList.drop (q + 1))) (by rw [HT.out]) (by omega) (text_len (by omega))

set_option maxRecDepth 100000 in
set_option maxHeartbeats 4000000 in
theorem next_ph (s : ByteArray) (p b q : Nat) (w : World) (hs : s.size ≤ 1048576) (hp : p ≤ s.size) (hb : b < w.heap.size)
    (h0 : w.cell? ⟨b, 0, none⟩ = some (.string s)) (h1 : w.cell? ⟨b, 1, none⟩ = some (.int .i64 p)) (hf : w.frozen? ⟨b, 1, none⟩ = false) (HQ : Hid (mach (s.data.toList.drop p) 0 0 0 p = q))
    (hq : q + 1 < s.size) (hc : s[q] = 36) (hd1 : dig s[q + 1] = true) :
    Calls Try.prog 28 #[.pointer (some ⟨b, 0, none⟩)] w (NextPost w b s q (tokOf (s.data.toList.drop q))) := by
  have HT : Hid (tokOf (s.data.toList.drop q) = (5, 1 + run dig (s.data.toList.drop (q + 1)))) := tk_ph hq hc hd1
  have ha : alpha s[q] = false := by rw [hc]; decide
  have hd : dig s[q] = false := by rw [hc]; decide
  have t46 : ((s[q].toNat : Int) == 46) = false := by rw [hc]; rfl
  have t39 : ((s[q].toNat : Int) == 39) = false := by rw [hc]; rfl
  have t36 : ((s[q].toNat : Int) == 36) = true := by rw [hc]; rfl
  have te : ((q : Int) == (s.size : Int)) = false := by rw [beq_eq_false_iff_ne]; omega
  clear hc
  have hcall := skip_at s p b q w hs hp hb h0 h1 hf HQ
  unfold tok0 at hcall
  unfold NextPost
  generalize tokOf (s.data.toList.drop q) = T at *
  clear h0 h1 hf HQ
  have hne : ¬ b = w.heap.size := by omega
  have hne' : ¬ w.heap.size = b := by omega
  have hq' : (q : Int) ≤ (s.size : Int) := by omega
  go_enter Try.func28, Try.ntmps28
  go_wp2_with fail
  refine hcall.mono ?_
  clear hcall
  rintro e w1 ⟨rfl, HA⟩
  obtain ⟨g0, g1, gf, ho, r0, r1, r2, f0, f1, f2⟩ := id HA
  go_wp2_with (first | (go_at_call 35; refine (isLetter_val ha _).mono ?_; rintro e w' ⟨rfl, rfl⟩) | (go_at_call 36; first | (refine (isDigit_val hd _).mono ?_; rintro e w' ⟨rfl, rfl⟩) | (refine (isDigit_val hd1 _).mono ?_; rintro e w' ⟨rfl, rfl⟩)))
  go_loopg [] s.size (fun g wr => ∃ k : Nat, q + 1 ≤ k ∧ k ≤ s.size ∧ s.size - k ≤ g ∧ At w wr b s k ∧ Hid (k + run dig (s.data.toList.drop k) = q + (1 + run dig (s.data.toList.drop (q + 1)))))
  case atStart => exact ⟨q + 1, by omega, by omega, by omega, HA.next hb (HA.lex.set _) (by omega), by show q + 1 + run dig (s.data.toList.drop (q + 1)) = q + (1 + run dig (s.data.toList.drop (q + 1))); omega⟩
  case round =>
    clear g0 g1 gf ho r0 r1 r2 f0 f1 f2 HA
    obtain ⟨k, hk1, hk, hg, HA, H⟩ := hrel
    obtain ⟨g0, g1, gf, ho, r0, r1, r2, f0, f1, f2⟩ := id HA
    have hqk' : (q : Int) ≤ (k : Int) := by omega
    have hks' : (k : Int) ≤ (s.size : Int) := by omega
    by_cases hlt : k < s.size
    · have hlt' : (k : Int) < (s.size : Int) := by omega
      cases hdk : dig s[k] with
      | true =>
        have HN : Hid (k + 1 + run dig (s.data.toList.drop (k + 1)) = q + (1 + run dig (s.data.toList.drop (q + 1)))) := by
          show k + 1 + run dig (s.data.toList.drop (k + 1)) = q + (1 + run dig (s.data.toList.drop (q + 1)))
          rw [← H.out, drop_cons s k hlt, run_yes _ hdk]; omega
        go_wp2_with fail
        go_quiet ((go_at_call 36; exact Calls.quiet_of_same (isDigit_val hdk _)))
        go_wp2_with fail
        go_roundg (s.size - (k + 1))
        case measure => omega
        case rel => exact ⟨k + 1, by omega, by omega, by omega, HA.next hb ((HA.lex.drew _).set _) (by omega), HN⟩
      | false =>
        have HN : Hid (q + (1 + run dig (s.data.toList.drop (q + 1))) = k) := by
          show q + (1 + run dig (s.data.toList.drop (q + 1))) = k
          rw [← H.out, drop_cons s k hlt, run_no _ (by simp [hdk])]; rfl
        go_wp2_with fail
        go_quiet ((go_at_call 36; exact Calls.quiet_of_same (isDigit_val hdk _)))
        go_wp2_with fail
        have HK := HN.out
        go_region
        go_wp2_with fail
        refine bodyPost_ret (v := .agg #[.int .i64 5, .string (s.extract q k), .int .i64 q]) (by simp [results, Try.results28, go_sem, r0, r1, r2]) rfl ?_
        refine ⟨_, by rw [HT.out]; rfl, ?_⟩
        exact next_postN hb (HA.next hb (HA.lex.drew _) (k' := k) rfl) (len := 1 + run dig (s.data.toList.drop (q + 1))) (by rw [HT.out]) (by omega) (text_len (by omega))
    · have hltd : decide ((k : Int) < (s.size : Int)) = false := by simp; omega
      have HN : Hid (q + (1 + run dig (s.data.toList.drop (q + 1))) = k) := by
        show q + (1 + run dig (s.data.toList.drop (q + 1))) = k
        rw [← H.out, drop_nil s k hlt]; rfl
      go_wp2_with fail
      go_quiet (fail)
      go_wp2_with fail
      have HK := HN.out
      go_region
      go_wp2_with fail
      refine bodyPost_ret (v := .agg #[.int .i64 5, .string (s.extract q k), .int .i64 q]) (by simp [results, Try.results28, go_sem, r0, r1, r2]) rfl ?_
      refine ⟨_, by rw [HT.out]; rfl, ?_⟩
      exact next_postN hb (HA.next hb (HA.lex.drew _) (k' := k) rfl) (len := 1 + run dig (s.data.toList.drop (q + 1))) (by rw [HT.out]) (by omega) (text_len (by omega))

end Go.Proofs.Qxb6601015a.SK
