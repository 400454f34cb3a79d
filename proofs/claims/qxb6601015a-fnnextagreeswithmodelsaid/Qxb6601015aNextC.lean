/-
  THE WALK of (*Lexer).Next (28): a number; a string.
-/
import Derived.Test.Qxb6601015aNextA
import Derived.Test.Qxb6601015aNumDot
import Derived.Test.Qxb6601015aNumPl
namespace Go.Proofs.Qxb6601015a.SK
open Go Go.RowKit

theorem scanNumber_any (s : ByteArray) (q b : Nat) (w : World) (hs : s.size ≤ 1048576) (hq : q ≤ s.size)
    (h0 : w.cell? ⟨b, 0, none⟩ = some (.string s)) (h1 : w.cell? ⟨b, 1, none⟩ = some (.int .i64 q)) (hf : w.frozen? ⟨b, 1, none⟩ = false) :
    Calls Try.prog 34 #[.pointer (some ⟨b, 0, none⟩)] w fun e w' => e = .returned (.int .i64 ((scanN (s.data.toList.drop q)).1 : Nat)) ∧ LexIs w w' b s ((scanN (s.data.toList.drop q)).2 + q : Nat) := by
  have e := scan_abs s.data.toList q
  have key : Calls Try.prog 34 #[.pointer (some ⟨b, 0, none⟩)] w fun e w' => e = .returned (.int .i64 ((tailN (s.data.toList.drop (q + run dig (s.data.toList.drop q))) (q + run dig (s.data.toList.drop q))).1 : Nat)) ∧ LexIs w w' b s ((tailN (s.data.toList.drop (q + run dig (s.data.toList.drop q))) (q + run dig (s.data.toList.drop q))).2 : Nat) := by
    by_cases hlt : q + run dig (s.data.toList.drop q) < s.size
    · by_cases hc : s[q + run dig (s.data.toList.drop q)] = 46
      · exact scanNumber_dot s q b w hs hq h0 h1 hf hlt hc
      · exact scanNumber_plain s q b w hs hq h0 h1 hf hlt hc
    · exact scanNumber_end s q b w hs hq h0 h1 hf hlt
  rw [e] at key
  exact key

set_option maxRecDepth 100000 in
set_option maxHeartbeats 4000000 in
theorem next_num1 (s : ByteArray) (p b q : Nat) (w : World) (hs : s.size ≤ 1048576) (hp : p ≤ s.size) (hb : b < w.heap.size)
    (h0 : w.cell? ⟨b, 0, none⟩ = some (.string s)) (h1 : w.cell? ⟨b, 1, none⟩ = some (.int .i64 p)) (hf : w.frozen? ⟨b, 1, none⟩ = false) (HQ : Hid (mach (s.data.toList.drop p) 0 0 0 p = q))
    (hq : q < s.size) (ha : alpha s[q] = false) (hd : dig s[q] = true) :
    Calls Try.prog 28 #[.pointer (some ⟨b, 0, none⟩)] w (NextPost w b s q (tokOf (s.data.toList.drop q))) := by
  have HT : Hid (tokOf (s.data.toList.drop q) = scanN (s.data.toList.drop q)) := tk_num1 hq ha hd
  have te : ((q : Int) == (s.size : Int)) = false := by rw [beq_eq_false_iff_ne]; omega
  have hcall := skip_at s p b q w hs hp hb h0 h1 hf HQ
  unfold tok0 at hcall
  unfold NextPost
  generalize tokOf (s.data.toList.drop q) = T at *
  clear h0 h1 hf HQ
  have hne : ¬ b = w.heap.size := by omega
  have hne' : ¬ w.heap.size = b := by omega
  have hq' : (q : Int) ≤ (s.size : Int) := by omega
  go_enter Try.func28, Try.ntmps28
  go_wp2_with fail
  refine hcall.mono ?_
  clear hcall
  rintro e w1 ⟨rfl, HA⟩
  obtain ⟨g0, g1, gf, ho, r0, r1, r2, f0, f1, f2⟩ := id HA
  go_wp2_with (first | (go_at_call 35; refine (isLetter_val ha _).mono ?_; rintro e w' ⟨rfl, rfl⟩) | (go_at_call 36; refine (isDigit_val hd _).mono ?_; rintro e w' ⟨rfl, rfl⟩))
  refine (scanNumber_any s q b _ hs (by omega) g0 g1 gf).mono ?_
  rintro e w2 ⟨rfl, HL⟩
  have HA2 : At w w2 b s ((scanN (s.data.toList.drop q)).2 + q) := HA.next hb HL rfl
  have hle := scanN_le (s.data.toList.drop q)
  rw [List.length_drop, ← Lib.size_eq] at hle
  generalize scanN (s.data.toList.drop q) = N at *
  clear g0 g1 gf ho r0 r1 r2 f0 f1 f2 HA HL
  obtain ⟨g0, g1, gf, ho, r0, r1, r2, f0, f1, f2⟩ := id HA2
  have hq2 : (q : Int) ≤ ((N.2 + q : Nat) : Int) := by omega
  have hq3 : ((N.2 + q : Nat) : Int) ≤ (s.size : Int) := by omega
  go_wp2_with fail
  go_region
  go_wp2_with fail
  refine bodyPost_ret (v := .agg #[.int .i64 (N.1 : Nat), .string (s.extract q (N.2 + q)), .int .i64 q]) (by simp [results, Try.results28, go_sem, r0, r1, r2]) rfl ?_
  refine ⟨_, by rw [HT.out], ?_⟩
  exact next_post hb (HA2) (len := N.2) (by rw [HT.out]) (by omega) (text_len (by omega))

set_option maxRecDepth 100000 in
set_option maxHeartbeats 4000000 in
theorem next_num2 (s : ByteArray) (p b q : Nat) (w : World) (hs : s.size ≤ 1048576) (hp : p ≤ s.size) (hb : b < w.heap.size)
    (h0 : w.cell? ⟨b, 0, none⟩ = some (.string s)) (h1 : w.cell? ⟨b, 1, none⟩ = some (.int .i64 p)) (hf : w.frozen? ⟨b, 1, none⟩ = false) (HQ : Hid (mach (s.data.toList.drop p) 0 0 0 p = q))
    (hq : q + 1 < s.size) (hc : s[q] = 46) (hd1 : dig s[q + 1] = true) :
    Calls Try.prog 28 #[.pointer (some ⟨b, 0, none⟩)] w (NextPost w b s q (tokOf (s.data.toList.drop q))) := by
  have HT : Hid (tokOf (s.data.toList.drop q) = scanN (s.data.toList.drop q)) := tk_num2 hq hc hd1
  have ha : alpha s[q] = false := by rw [hc]; decide
  have hd : dig s[q] = false := by rw [hc]; decide
  have t46 : ((s[q].toNat : Int) == 46) = true := by rw [hc]; rfl
  have te : ((q : Int) == (s.size : Int)) = false := by rw [beq_eq_false_iff_ne]; omega
  clear hc
  have hcall := skip_at s p b q w hs hp hb h0 h1 hf HQ
  unfold tok0 at hcall
  unfold NextPost
  generalize tokOf (s.data.toList.drop q) = T at *
  clear h0 h1 hf HQ
  have hne : ¬ b = w.heap.size := by omega
  have hne' : ¬ w.heap.size = b := by omega
  have hq' : (q : Int) ≤ (s.size : Int) := by omega
  go_enter Try.func28, Try.ntmps28
  go_wp2_with fail
  refine hcall.mono ?_
  clear hcall
  rintro e w1 ⟨rfl, HA⟩
  obtain ⟨g0, g1, gf, ho, r0, r1, r2, f0, f1, f2⟩ := id HA
  go_wp2_with (first | (go_at_call 35; refine (isLetter_val ha _).mono ?_; rintro e w' ⟨rfl, rfl⟩) | (go_at_call 36; first | (refine (isDigit_val hd _).mono ?_; rintro e w' ⟨rfl, rfl⟩) | (refine (isDigit_val hd1 _).mono ?_; rintro e w' ⟨rfl, rfl⟩)))
  refine (scanNumber_any s q b _ hs (by omega) g0 g1 gf).mono ?_
  rintro e w2 ⟨rfl, HL⟩
  have HA2 : At w w2 b s ((scanN (s.data.toList.drop q)).2 + q) := HA.next hb HL rfl
  have hle := scanN_le (s.data.toList.drop q)
  rw [List.length_drop, ← Lib.size_eq] at hle
  generalize scanN (s.data.toList.drop q) = N at *
  clear g0 g1 gf ho r0 r1 r2 f0 f1 f2 HA HL
  obtain ⟨g0, g1, gf, ho, r0, r1, r2, f0, f1, f2⟩ := id HA2
  have hq2 : (q : Int) ≤ ((N.2 + q : Nat) : Int) := by omega
  have hq3 : ((N.2 + q : Nat) : Int) ≤ (s.size : Int) := by omega
  go_wp2_with fail
  go_region
  go_wp2_with fail
  refine bodyPost_ret (v := .agg #[.int .i64 (N.1 : Nat), .string (s.extract q (N.2 + q)), .int .i64 q]) (by simp [results, Try.results28, go_sem, r0, r1, r2]) rfl ?_
  refine ⟨_, by rw [HT.out], ?_⟩
  exact next_post hb (HA2) (len := N.2) (by rw [HT.out]) (by omega) (text_len (by omega))

set_option maxRecDepth 100000 in
set_option maxHeartbeats 4000000 in
theorem next_str (s : ByteArray) (p b q : Nat) (w : World) (hs : s.size ≤ 1048576) (hp : p ≤ s.size) (hb : b < w.heap.size)
    (h0 : w.cell? ⟨b, 0, none⟩ = some (.string s)) (h1 : w.cell? ⟨b, 1, none⟩ = some (.int .i64 p)) (hf : w.frozen? ⟨b, 1, none⟩ = false) (HQ : Hid (mach (s.data.toList.drop p) 0 0 0 p = q))
    (hq : q < s.size) (hc : s[q] = 39) :
    Calls Try.prog 28 #[.pointer (some ⟨b, 0, none⟩)] w (NextPost w b s q (tokOf (s.data.toList.drop q))) := by
  have HT : Hid (tokOf (s.data.toList.drop q) = (if (strC (s.data.toList.drop (q + 1)) 1).1 then 4 else 7, (strC (s.data.toList.drop (q + 1)) 1).2)) := tk_str hq hc
  have HS : Hid (strC (s.data.toList.drop (q + 1)) (q + 1) = ((strC (s.data.toList.drop (q + 1)) 1).1, (strC (s.data.toList.drop (q + 1)) 1).2 + q)) := strC_abs _ _
  have ha : alpha s[q] = false := by rw [hc]; decide
  have hd : dig s[q] = false := by rw [hc]; decide
  have t46 : ((s[q].toNat : Int) == 46) = false := by rw [hc]; rfl
  have t39 : ((s[q].toNat : Int) == 39) = true := by rw [hc]; rfl
  have te : ((q : Int) == (s.size : Int)) = false := by rw [beq_eq_false_iff_ne]; omega
  clear hc
  have hcall := skip_at s p b q w hs hp hb h0 h1 hf HQ
  unfold tok0 at hcall
  unfold NextPost
  generalize tokOf (s.data.toList.drop q) = T at *
  clear h0 h1 hf HQ
  have hne : ¬ b = w.heap.size := by omega
  have hne' : ¬ w.heap.size = b := by omega
  have hq' : (q : Int) ≤ (s.size : Int) := by omega
  go_enter Try.func28, Try.ntmps28
  go_wp2_with fail
  refine hcall.mono ?_
  clear hcall
  rintro e w1 ⟨rfl, HA⟩
  obtain ⟨g0, g1, gf, ho, r0, r1, r2, f0, f1, f2⟩ := id HA
  go_wp2_with (first | (go_at_call 35; refine (isLetter_val ha _).mono ?_; rintro e w' ⟨rfl, rfl⟩) | (go_at_call 36; refine (isDigit_val hd _).mono ?_; rintro e w' ⟨rfl, rfl⟩))
  refine (scanString_any s q b _ hs hq g0 g1 gf).mono ?_
  rintro e w2 ⟨rfl, hB, c0, c1, cf⟩
  rw [HS.out] at c1
  rw [HS.out]
  have HA2 : At w w2 b s ((strC (s.data.toList.drop (q + 1)) 1).2 + q) := HA.next hb ⟨c0, c1, cf, hB⟩ rfl
  have hle := strP_le (s.data.toList.drop (q + 1)) false 1
  rw [str_same, List.length_drop, ← Lib.size_eq] at hle
  generalize strC (s.data.toList.drop (q + 1)) 1 = N at *
  clear g0 g1 gf ho r0 r1 r2 f0 f1 f2 HA c0 c1 cf hB
  obtain ⟨g0, g1, gf, ho, r0, r1, r2, f0, f1, f2⟩ := id HA2
  have hq2 : (q : Int) ≤ ((N.2 + q : Nat) : Int) := by omega
  have hq3 : ((N.2 + q : Nat) : Int) ≤ (s.size : Int) := by omega
  go_wp2_with fail
  go_region
  go_wp2_with fail
  refine bodyPost_ret (v := .agg #[.int .i64 (skind N.1), .string (s.extract q (N.2 + q)), .int .i64 q]) (by simp [results, Try.results28, go_sem, r0, r1, r2]) rfl ?_
  refine ⟨_, by rw [HT.out]; unfold skind; cases N.1 <;> rfl, ?_⟩
  exact next_post hb (HA2) (len := N.2) (by rw [HT.out]) (by omega) (text_len (by omega))

end Go.Proofs.Qxb6601015a.SK
