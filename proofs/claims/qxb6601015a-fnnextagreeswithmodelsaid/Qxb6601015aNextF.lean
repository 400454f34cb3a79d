/-
  THE WALK of (*Lexer).Next (28): operators and illegal bytes, more.
-/
import Derived.Test.Qxb6601015aNextA
import Derived.BigQuiet
namespace Go.Proofs.Qxb6601015a.SK
open Go Go.RowKit

set_option maxRecDepth 100000 in
set_option maxHeartbeats 4000000 in
theorem next_r60a (s : ByteArray) (p b q : Nat) (w : World) (hs : s.size ≤ 1048576) (hp : p ≤ s.size) (hb : b < w.heap.size)
    (h0 : w.cell? ⟨b, 0, none⟩ = some (.string s)) (h1 : w.cell? ⟨b, 1, none⟩ = some (.int .i64 p)) (hf : w.frozen? ⟨b, 1, none⟩ = false) (HQ : Hid (mach (s.data.toList.drop p) 0 0 0 p = q))
    (r : Rest s q) (hq : q < s.size) (hc : s[q] = 60) (hq1 : q + 1 < s.size) (hn : s[q + 1] = 61) :
    Calls Try.prog 28 #[.pointer (some ⟨b, 0, none⟩)] w (NextPost w b s q (tokOf (s.data.toList.drop q))) := by
  have pu : punct (s.data.toList.drop q) = 2 := pu_two hq1 (by rw [hc, hn]; decide)
  have HT : Hid (tokOf (s.data.toList.drop q) = (6, 2)) := by
    show tokOf (s.data.toList.drop q) = (6, 2)
    rw [tk_rest r]; rw [pu]; rfl
  have ha : alpha s[q] = false := r.notAlpha
  have hd : dig s[q] = false := r.notDig
  have t39 : ((s[q].toNat : Int) == 39) = false := byte_ne r.quote
  have t46 : ((s[q].toNat : Int) == 46) = false := by rw [hc]; rfl
  have t36 : ((s[q].toNat : Int) == 36) = false := by rw [hc]; rfl
  have t60 : ((s[q].toNat : Int) == 60) = true := by rw [hc]; rfl
  have t62 : ((s[q].toNat : Int) == 62) = false := by rw [hc]; rfl
  have hp2 : p2 s q 47 42 = false := p2_no (fun _ e => absurd (hc.symm.trans e.1) (by decide))
  have hpa : p2 s q 58 58 = false := p2_no (fun _ e => absurd (hc.symm.trans e.1) (by decide))
  have hpb : p2 s q 124 124 = false := p2_no (fun _ e => absurd (hc.symm.trans e.1) (by decide))
  have hix : ixOf s[q] < 0 := by rw [hc]; decide
  have hlt1' : (q : Int) + 1 < (s.size : Int) := by omega
  have hk0 : (0 : Int) ≤ (q : Int) + 1 := by omega
  have u61 : ((s[q + 1].toNat : Int) == 61) = true := by rw [hn]; rfl
  have te : ((q : Int) == (s.size : Int)) = false := by rw [beq_eq_false_iff_ne]; omega
  clear r pu hc hn
  have hcall := skip_at s p b q w hs hp hb h0 h1 hf HQ
  unfold tok0 at hcall
  unfold NextPost
  generalize tokOf (s.data.toList.drop q) = T at *
  clear h0 h1 hf HQ
  have hne : ¬ b = w.heap.size := by omega
  have hne' : ¬ w.heap.size = b := by omega
  have hq' : (q : Int) ≤ (s.size : Int) := by omega
  go_enter Try.func28, Try.ntmps28
  go_wp2_with fail
  refine hcall.mono ?_
  clear hcall
  rintro e w1 ⟨rfl, HA⟩
  obtain ⟨g0, g1, gf, ho, r0, r1, r2, f0, f1, f2⟩ := id HA
  go_wp2_with (first | (go_at_call 35; refine (isLetter_val ha _).mono ?_; rintro e w' ⟨rfl, rfl⟩) | (go_at_call 36; refine (isDigit_val hd _).mono ?_; rintro e w' ⟨rfl, rfl⟩) | (go_at_call 38; refine (hasPre _ _ _ _ _).mono ?_; rintro e w' ⟨rfl, rfl⟩; first | rw [hp2] | rw [hpa] | rw [hpb]) | (go_at_call 39; refine (ix_any _ _).mono ?_; rintro e w' ⟨rfl, rfl⟩))
  go_quiet (fail)
  go_wp2_with fail
  go_region
  go_wp2_with fail
  refine bodyPost_ret (v := .agg #[.int .i64 6, .string (s.extract q (q + 2)), .int .i64 q]) (by simp [results, Try.results28, go_sem, r0, r1, r2]) rfl ?_
  refine ⟨_, by rw [HT.out]; rfl, ?_⟩
  exact next_post hb (HA.next hb (((HA.lex.set _).drew _).set _) (k' := q + 2) (by omega)) (len := 2) (by rw [HT.out]) (by omega) (text_len (by omega))

set_option maxRecDepth 100000 in
set_option maxHeartbeats 4000000 in
theorem next_r60b (s : ByteArray) (p b q : Nat) (w : World) (hs : s.size ≤ 1048576) (hp : p ≤ s.size) (hb : b < w.heap.size)
    (h0 : w.cell? ⟨b, 0, none⟩ = some (.string s)) (h1 : w.cell? ⟨b, 1, none⟩ = some (.int .i64 p)) (hf : w.frozen? ⟨b, 1, none⟩ = false) (HQ : Hid (mach (s.data.toList.drop p) 0 0 0 p = q))
    (r : Rest s q) (hq : q < s.size) (hc : s[q] = 60) (hq1 : q + 1 < s.size) (hn : s[q + 1] = 62) :
    Calls Try.prog 28 #[.pointer (some ⟨b, 0, none⟩)] w (NextPost w b s q (tokOf (s.data.toList.drop q))) := by
  have pu : punct (s.data.toList.drop q) = 2 := pu_two hq1 (by rw [hc, hn]; decide)
  have HT : Hid (tokOf (s.data.toList.drop q) = (6, 2)) := by
    show tokOf (s.data.toList.drop q) = (6, 2)
    rw [tk_rest r]; rw [pu]; rfl
  have ha : alpha s[q] = false := r.notAlpha
  have hd : dig s[q] = false := r.notDig
  have t39 : ((s[q].toNat : Int) == 39) = false := byte_ne r.quote
  have t46 : ((s[q].toNat : Int) == 46) = false := by rw [hc]; rfl
  have t36 : ((s[q].toNat : Int) == 36) = false := by rw [hc]; rfl
  have t60 : ((s[q].toNat : Int) == 60) = true := by rw [hc]; rfl
  have t62 : ((s[q].toNat : Int) == 62) = false := by rw [hc]; rfl
  have hp2 : p2 s q 47 42 = false := p2_no (fun _ e => absurd (hc.symm.trans e.1) (by decide))
  have hpa : p2 s q 58 58 = false := p2_no (fun _ e => absurd (hc.symm.trans e.1) (by decide))
  have hpb : p2 s q 124 124 = false := p2_no (fun _ e => absurd (hc.symm.trans e.1) (by decide))
  have hix : ixOf s[q] < 0 := by rw [hc]; decide
  have hlt1' : (q : Int) + 1 < (s.size : Int) := by omega
  have hk0 : (0 : Int) ≤ (q : Int) + 1 := by omega
  have u61 : ((s[q + 1].toNat : Int) == 61) = false := by rw [hn]; rfl
  have u62 : ((s[q + 1].toNat : Int) == 62) = true := by rw [hn]; rfl
  have te : ((q : Int) == (s.size : Int)) = false := by rw [beq_eq_false_iff_ne]; omega
  clear r pu hc hn
  have hcall := skip_at s p b q w hs hp hb h0 h1 hf HQ
  unfold tok0 at hcall
  unfold NextPost
  generalize tokOf (s.data.toList.drop q) = T at *
  clear h0 h1 hf HQ
  have hne : ¬ b = w.heap.size := by omega
  have hne' : ¬ w.heap.size = b := by omega
  have hq' : (q : Int) ≤ (s.size : Int) := by omega
  go_enter Try.func28, Try.ntmps28
  go_wp2_with fail
  refine hcall.mono ?_
  clear hcall
  rintro e w1 ⟨rfl, HA⟩
  obtain ⟨g0, g1, gf, ho, r0, r1, r2, f0, f1, f2⟩ := id HA
  go_wp2_with (first | (go_at_call 35; refine (isLetter_val ha _).mono ?_; rintro e w' ⟨rfl, rfl⟩) | (go_at_call 36; refine (isDigit_val hd _).mono ?_; rintro e w' ⟨rfl, rfl⟩) | (go_at_call 38; refine (hasPre _ _ _ _ _).mono ?_; rintro e w' ⟨rfl, rfl⟩; first | rw [hp2] | rw [hpa] | rw [hpb]) | (go_at_call 39; refine (ix_any _ _).mono ?_; rintro e w' ⟨rfl, rfl⟩))
  go_quiet (fail)
  go_wp2_with fail
  go_region
  go_wp2_with fail
  refine bodyPost_ret (v := .agg #[.int .i64 6, .string (s.extract q (q + 2)), .int .i64 q]) (by simp [results, Try.results28, go_sem, r0, r1, r2]) rfl ?_
  refine ⟨_, by rw [HT.out]; rfl, ?_⟩
  exact next_post hb (HA.next hb (((HA.lex.set _).drew _).set _) (k' := q + 2) (by omega)) (len := 2) (by rw [HT.out]) (by omega) (text_len (by omega))

set_option maxRecDepth 100000 in
set_option maxHeartbeats 4000000 in
theorem next_r60c (s : ByteArray) (p b q : Nat) (w : World) (hs : s.size ≤ 1048576) (hp : p ≤ s.size) (hb : b < w.heap.size)
    (h0 : w.cell? ⟨b, 0, none⟩ = some (.string s)) (h1 : w.cell? ⟨b, 1, none⟩ = some (.int .i64 p)) (hf : w.frozen? ⟨b, 1, none⟩ = false) (HQ : Hid (mach (s.data.toList.drop p) 0 0 0 p = q))
    (r : Rest s q) (hq : q < s.size) (hc : s[q] = 60) (hq1 : q + 1 < s.size) (hn1 : ¬ s[q + 1] = 61) (hn2 : ¬ s[q + 1] = 62) :
    Calls Try.prog 28 #[.pointer (some ⟨b, 0, none⟩)] w (NextPost w b s q (tokOf (s.data.toList.drop q))) := by
  have pu : punct (s.data.toList.drop q) = 1 := pu_one hq (fun _ => by rw [hc]; unfold two; simp [hn1, hn2]) (by rw [hc]; decide)
  have HT : Hid (tokOf (s.data.toList.drop q) = (6, 1)) := by
    show tokOf (s.data.toList.drop q) = (6, 1)
    rw [tk_rest r]; rw [pu]; rfl
  have ha : alpha s[q] = false := r.notAlpha
  have hd : dig s[q] = false := r.notDig
  have t39 : ((s[q].toNat : Int) == 39) = false := byte_ne r.quote
  have t46 : ((s[q].toNat : Int) == 46) = false := by rw [hc]; rfl
  have t36 : ((s[q].toNat : Int) == 36) = false := by rw [hc]; rfl
  have t60 : ((s[q].toNat : Int) == 60) = true := by rw [hc]; rfl
  have t62 : ((s[q].toNat : Int) == 62) = false := by rw [hc]; rfl
  have hp2 : p2 s q 47 42 = false := p2_no (fun _ e => absurd (hc.symm.trans e.1) (by decide))
  have hpa : p2 s q 58 58 = false := p2_no (fun _ e => absurd (hc.symm.trans e.1) (by decide))
  have hpb : p2 s q 124 124 = false := p2_no (fun _ e => absurd (hc.symm.trans e.1) (by decide))
  have hix : ixOf s[q] < 0 := by rw [hc]; decide
  have hlt1' : (q : Int) + 1 < (s.size : Int) := by omega
  have hk0 : (0 : Int) ≤ (q : Int) + 1 := by omega
  have u61 : ((s[q + 1].toNat : Int) == 61) = false := byte_ne hn1
  have u62 : ((s[q + 1].toNat : Int) == 62) = false := byte_ne hn2
  have te : ((q : Int) == (s.size : Int)) = false := by rw [beq_eq_false_iff_ne]; omega
  clear r pu hc hn1 hn2
  have hcall := skip_at s p b q w hs hp hb h0 h1 hf HQ
  unfold tok0 at hcall
  unfold NextPost
  generalize tokOf (s.data.toList.drop q) = T at *
  clear h0 h1 hf HQ
  have hne : ¬ b = w.heap.size := by omega
  have hne' : ¬ w.heap.size = b := by omega
  have hq' : (q : Int) ≤ (s.size : Int) := by omega
  go_enter Try.func28, Try.ntmps28
  go_wp2_with fail
  refine hcall.mono ?_
  clear hcall
  rintro e w1 ⟨rfl, HA⟩
  obtain ⟨g0, g1, gf, ho, r0, r1, r2, f0, f1, f2⟩ := id HA
  go_wp2_with (first | (go_at_call 35; refine (isLetter_val ha _).mono ?_; rintro e w' ⟨rfl, rfl⟩) | (go_at_call 36; refine (isDigit_val hd _).mono ?_; rintro e w' ⟨rfl, rfl⟩) | (go_at_call 38; refine (hasPre _ _ _ _ _).mono ?_; rintro e w' ⟨rfl, rfl⟩; first | rw [hp2] | rw [hpa] | rw [hpb]) | (go_at_call 39; refine (ix_any _ _).mono ?_; rintro e w' ⟨rfl, rfl⟩))
  go_quiet (fail)
  go_wp2_with fail
  go_region
  go_wp2_with fail
  refine bodyPost_ret (v := .agg #[.int .i64 6, .string (s.extract q (q + 1)), .int .i64 q]) (by simp [results, Try.results28, go_sem, r0, r1, r2]) rfl ?_
  refine ⟨_, by rw [HT.out]; rfl, ?_⟩
  exact next_postN hb (HA.next hb ((HA.lex.set _).drew _) (k' := q + 1) (by omega)) (len := 1) (by rw [HT.out]) (by omega) (text_len (by omega))

set_option maxRecDepth 100000 in
set_option maxHeartbeats 4000000 in
theorem next_r60d (s : ByteArray) (p b q : Nat) (w : World) (hs : s.size ≤ 1048576) (hp : p ≤ s.size) (hb : b < w.heap.size)
    (h0 : w.cell? ⟨b, 0, none⟩ = some (.string s)) (h1 : w.cell? ⟨b, 1, none⟩ = some (.int .i64 p)) (hf : w.frozen? ⟨b, 1, none⟩ = false) (HQ : Hid (mach (s.data.toList.drop p) 0 0 0 p = q))
    (r : Rest s q) (hq : q < s.size) (hc : s[q] = 60) (hq1 : ¬ q + 1 < s.size) :
    Calls Try.prog 28 #[.pointer (some ⟨b, 0, none⟩)] w (NextPost w b s q (tokOf (s.data.toList.drop q))) := by
  have pu : punct (s.data.toList.drop q) = 1 := pu_one hq (fun h => absurd h hq1) (by rw [hc]; decide)
  have HT : Hid (tokOf (s.data.toList.drop q) = (6, 1)) := by
    show tokOf (s.data.toList.drop q) = (6, 1)
    rw [tk_rest r]; rw [pu]; rfl
  have ha : alpha s[q] = false := r.notAlpha
  have hd : dig s[q] = false := r.notDig
  have t39 : ((s[q].toNat : Int) == 39) = false := byte_ne r.quote
  have t46 : ((s[q].toNat : Int) == 46) = false := by rw [hc]; rfl
  have t36 : ((s[q].toNat : Int) == 36) = false := by rw [hc]; rfl
  have t60 : ((s[q].toNat : Int) == 60) = true := by rw [hc]; rfl
  have t62 : ((s[q].toNat : Int) == 62) = false := by rw [hc]; rfl
  have hp2 : p2 s q 47 42 = false := p2_no (fun _ e => absurd (hc.symm.trans e.1) (by decide))
  have hpa : p2 s q 58 58 = false := p2_no (fun _ e => absurd (hc.symm.trans e.1) (by decide))
  have hpb : p2 s q 124 124 = false := p2_no (fun _ e => absurd (hc.symm.trans e.1) (by decide))
  have hix : ixOf s[q] < 0 := by rw [hc]; decide
  have hdec : decide ((q : Int) + 1 < (s.size : Int)) = false := by simp; omega
  have te : ((q : Int) == (s.size : Int)) = false := by rw [beq_eq_false_iff_ne]; omega
  clear r pu hc
  have hcall := skip_at s p b q w hs hp hb h0 h1 hf HQ
  unfold tok0 at hcall
  unfold NextPost
  generalize tokOf (s.data.toList.drop q) = T at *
  clear h0 h1 hf HQ
  have hne : ¬ b = w.heap.size := by omega
  have hne' : ¬ w.heap.size = b := by omega
  have hq' : (q : Int) ≤ (s.size : Int) := by omega
  go_enter Try.func28, Try.ntmps28
  go_wp2_with fail
  refine hcall.mono ?_
  clear hcall
  rintro e w1 ⟨rfl, HA⟩
  obtain ⟨g0, g1, gf, ho, r0, r1, r2, f0, f1, f2⟩ := id HA
  go_wp2_with (first | (go_at_call 35; refine (isLetter_val ha _).mono ?_; rintro e w' ⟨rfl, rfl⟩) | (go_at_call 36; refine (isDigit_val hd _).mono ?_; rintro e w' ⟨rfl, rfl⟩) | (go_at_call 38; refine (hasPre _ _ _ _ _).mono ?_; rintro e w' ⟨rfl, rfl⟩; first | rw [hp2] | rw [hpa] | rw [hpb]) | (go_at_call 39; refine (ix_any _ _).mono ?_; rintro e w' ⟨rfl, rfl⟩))
  go_quiet (fail)
  go_wp2_with fail
  go_region
  go_wp2_with fail
  refine bodyPost_ret (v := .agg #[.int .i64 6, .string (s.extract q (q + 1)), .int .i64 q]) (by simp [results, Try.results28, go_sem, r0, r1, r2]) rfl ?_
  refine ⟨_, by rw [HT.out]; rfl, ?_⟩
  exact next_postN hb (HA.next hb ((HA.lex.set _).drew _) (k' := q + 1) (by omega)) (len := 1) (by rw [HT.out]) (by omega) (text_len (by omega))

set_option maxRecDepth 100000 in
set_option maxHeartbeats 4000000 in
theorem next_r62a (s : ByteArray) (p b q : Nat) (w : World) (hs : s.size ≤ 1048576) (hp : p ≤ s.size) (hb : b < w.heap.size)
    (h0 : w.cell? ⟨b, 0, none⟩ = some (.string s)) (h1 : w.cell? ⟨b, 1, none⟩ = some (.int .i64 p)) (hf : w.frozen? ⟨b, 1, none⟩ = false) (HQ : Hid (mach (s.data.toList.drop p) 0 0 0 p = q))
    (r : Rest s q) (hq : q < s.size) (hc : s[q] = 62) (hq1 : q + 1 < s.size) (hn : s[q + 1] = 61) :
    Calls Try.prog 28 #[.pointer (some ⟨b, 0, none⟩)] w (NextPost w b s q (tokOf (s.data.toList.drop q))) := by
  have pu : punct (s.data.toList.drop q) = 2 := pu_two hq1 (by rw [hc, hn]; decide)
  have HT : Hid (tokOf (s.data.toList.drop q) = (6, 2)) := by
    show tokOf (s.data.toList.drop q) = (6, 2)
    rw [tk_rest r]; rw [pu]; rfl
  have ha : alpha s[q] = false := r.notAlpha
  have hd : dig s[q] = false := r.notDig
  have t39 : ((s[q].toNat : Int) == 39) = false := byte_ne r.quote
  have t46 : ((s[q].toNat : Int) == 46) = false := by rw [hc]; rfl
  have t36 : ((s[q].toNat : Int) == 36) = false := by rw [hc]; rfl
  have t60 : ((s[q].toNat : Int) == 60) = false := by rw [hc]; rfl
  have t62 : ((s[q].toNat : Int) == 62) = true := by rw [hc]; rfl
  have hp2 : p2 s q 47 42 = false := p2_no (fun _ e => absurd (hc.symm.trans e.1) (by decide))
  have hpa : p2 s q 58 58 = false := p2_no (fun _ e => absurd (hc.symm.trans e.1) (by decide))
  have hpb : p2 s q 124 124 = false := p2_no (fun _ e => absurd (hc.symm.trans e.1) (by decide))
  have hix : ixOf s[q] < 0 := by rw [hc]; decide
  have hlt1' : (q : Int) + 1 < (s.size : Int) := by omega
  have hk0 : (0 : Int) ≤ (q : Int) + 1 := by omega
  have u61 : ((s[q + 1].toNat : Int) == 61) = true := by rw [hn]; rfl
  have te : ((q : Int) == (s.size : Int)) = false := by rw [beq_eq_false_iff_ne]; omega
  clear r pu hc hn
  have hcall := skip_at s p b q w hs hp hb h0 h1 hf HQ
  unfold tok0 at hcall
  unfold NextPost
  generalize tokOf (s.data.toList.drop q) = T at *
  clear h0 h1 hf HQ
  have hne : ¬ b = w.heap.size := by omega
  have hne' : ¬ w.heap.size = b := by omega
  have hq' : (q : Int) ≤ (s.size : Int) := by omega
  go_enter Try.func28, Try.ntmps28
  go_wp2_with fail
  refine hcall.mono ?_
  clear hcall
  rintro e w1 ⟨rfl, HA⟩
  obtain ⟨g0, g1, gf, ho, r0, r1, r2, f0, f1, f2⟩ := id HA
  go_wp2_with (first | (go_at_call 35; refine (isLetter_val ha _).mono ?_; rintro e w' ⟨rfl, rfl⟩) | (go_at_call 36; refine (isDigit_val hd _).mono ?_; rintro e w' ⟨rfl, rfl⟩) | (go_at_call 38; refine (hasPre _ _ _ _ _).mono ?_; rintro e w' ⟨rfl, rfl⟩; first | rw [hp2] | rw [hpa] | rw [hpb]) | (go_at_call 39; refine (ix_any _ _).mono ?_; rintro e w' ⟨rfl, rfl⟩))
  go_quiet (fail)
  go_wp2_with fail
  go_region
  go_wp2_with fail
  refine bodyPost_ret (v := .agg #[.int .i64 6, .string (s.extract q (q + 2)), .int .i64 q]) (by simp [results, Try.results28, go_sem, r0, r1, r2]) rfl ?_
  refine ⟨_, by rw [HT.out]; rfl, ?_⟩
  exact next_post hb (HA.next hb (((HA.lex.set _).drew _).set _) (k' := q + 2) (by omega)) (len := 2) (by rw [HT.out]) (by omega) (text_len (by omega))

set_option maxRecDepth 100000 in
set_option maxHeartbeats 4000000 in
theorem next_r62b (s : ByteArray) (p b q : Nat) (w : World) (hs : s.size ≤ 1048576) (hp : p ≤ s.size) (hb : b < w.heap.size)
    (h0 : w.cell? ⟨b, 0, none⟩ = some (.string s)) (h1 : w.cell? ⟨b, 1, none⟩ = some (.int .i64 p)) (hf : w.frozen? ⟨b, 1, none⟩ = false) (HQ : Hid (mach (s.data.toList.drop p) 0 0 0 p = q))
    (r : Rest s q) (hq : q < s.size) (hc : s[q] = 62) (hq1 : q + 1 < s.size) (hn1 : ¬ s[q + 1] = 61) :
    Calls Try.prog 28 #[.pointer (some ⟨b, 0, none⟩)] w (NextPost w b s q (tokOf (s.data.toList.drop q))) := by
  have pu : punct (s.data.toList.drop q) = 1 := pu_one hq (fun _ => by rw [hc]; unfold two; simp [hn1]) (by rw [hc]; decide)
  have HT : Hid (tokOf (s.data.toList.drop q) = (6, 1)) := by
    show tokOf (s.data.toList.drop q) = (6, 1)
    rw [tk_rest r]; rw [pu]; rfl
  have ha : alpha s[q] = false := r.notAlpha
  have hd : dig s[q] = false := r.notDig
  have t39 : ((s[q].toNat : Int) == 39) = false := byte_ne r.quote
  have t46 : ((s[q].toNat : Int) == 46) = false := by rw [hc]; rfl
  have t36 : ((s[q].toNat : Int) == 36) = false := by rw [hc]; rfl
  have t60 : ((s[q].toNat : Int) == 60) = false := by rw [hc]; rfl
  have t62 : ((s[q].toNat : Int) == 62) = true := by rw [hc]; rfl
  have hp2 : p2 s q 47 42 = false := p2_no (fun _ e => absurd (hc.symm.trans e.1) (by decide))
  have hpa : p2 s q 58 58 = false := p2_no (fun _ e => absurd (hc.symm.trans e.1) (by decide))
  have hpb : p2 s q 124 124 = false := p2_no (fun _ e => absurd (hc.symm.trans e.1) (by decide))
  have hix : ixOf s[q] < 0 := by rw [hc]; decide
  have hlt1' : (q : Int) + 1 < (s.size : Int) := by omega
  have hk0 : (0 : Int) ≤ (q : Int) + 1 := by omega
  have u61 : ((s[q + 1].toNat : Int) == 61) = false := byte_ne hn1
  have te : ((q : Int) == (s.size : Int)) = false := by rw [beq_eq_false_iff_ne]; omega
  clear r pu hc hn1
  have hcall := skip_at s p b q w hs hp hb h0 h1 hf HQ
  unfold tok0 at hcall
  unfold NextPost
  generalize tokOf (s.data.toList.drop q) = T at *
  clear h0 h1 hf HQ
  have hne : ¬ b = w.heap.size := by omega
  have hne' : ¬ w.heap.size = b := by omega
  have hq' : (q : Int) ≤ (s.size : Int) := by omega
  go_enter Try.func28, Try.ntmps28
  go_wp2_with fail
  refine hcall.mono ?_
  clear hcall
  rintro e w1 ⟨rfl, HA⟩
  obtain ⟨g0, g1, gf, ho, r0, r1, r2, f0, f1, f2⟩ := id HA
  go_wp2_with (first | (go_at_call 35; refine (isLetter_val ha _).mono ?_; rintro e w' ⟨rfl, rfl⟩) | (go_at_call 36; refine (isDigit_val hd _).mono ?_; rintro e w' ⟨rfl, rfl⟩) | (go_at_call 38; refine (hasPre _ _ _ _ _).mono ?_; rintro e w' ⟨rfl, rfl⟩; first | rw [hp2] | rw [hpa] | rw [hpb]) | (go_at_call 39; refine (ix_any _ _).mono ?_; rintro e w' ⟨rfl, rfl⟩))
  go_quiet (fail)
  go_wp2_with fail
  go_region
  go_wp2_with fail
  refine bodyPost_ret (v := .agg #[.int .i64 6, .string (s.extract q (q + 1)), .int .i64 q]) (by simp [results, Try.results28, go_sem, r0, r1, r2]) rfl ?_
  refine ⟨_, by rw [HT.out]; rfl, ?_⟩
  exact next_postN hb (HA.next hb ((HA.lex.set _).drew _) (k' := q + 1) (by omega)) (len := 1) (by rw [HT.out]) (by omega) (text_len (by omega))

set_option maxRecDepth 100000 in
set_option maxHeartbeats 4000000 in
theorem next_r62c (s : ByteArray) (p b q : Nat) (w : World) (hs : s.size ≤ 1048576) (hp : p ≤ s.size) (hb : b < w.heap.size)
    (h0 : w.cell? ⟨b, 0, none⟩ = some (.string s)) (h1 : w.cell? ⟨b, 1, none⟩ = some (.int .i64 p)) (hf : w.frozen? ⟨b, 1, none⟩ = false) (HQ : Hid (mach (s.data.toList.drop p) 0 0 0 p = q))
    (r : Rest s q) (hq : q < s.size) (hc : s[q] = 62) (hq1 : ¬ q + 1 < s.size) :
    Calls Try.prog 28 #[.pointer (some ⟨b, 0, none⟩)] w (NextPost w b s q (tokOf (s.data.toList.drop q))) := by
  have pu : punct (s.data.toList.drop q) = 1 := pu_one hq (fun h => absurd h hq1) (by rw [hc]; decide)
  have HT : Hid (tokOf (s.data.toList.drop q) = (6, 1)) := by
    show tokOf (s.data.toList.drop q) = (6, 1)
    rw [tk_rest r]; rw [pu]; rfl
  have ha : alpha s[q] = false := r.notAlpha
  have hd : dig s[q] = false := r.notDig
  have t39 : ((s[q].toNat : Int) == 39) = false := byte_ne r.quote
  have t46 : ((s[q].toNat : Int) == 46) = false := by rw [hc]; rfl
  have t36 : ((s[q].toNat : Int) == 36) = false := by rw [hc]; rfl
  have t60 : ((s[q].toNat : Int) == 60) = false := by rw [hc]; rfl
  have t62 : ((s[q].toNat : Int) == 62) = true := by rw [hc]; rfl
  have hp2 : p2 s q 47 42 = false := p2_no (fun _ e => absurd (hc.symm.trans e.1) (by decide))
  have hpa : p2 s q 58 58 = false := p2_no (fun _ e => absurd (hc.symm.trans e.1) (by decide))
  have hpb : p2 s q 124 124 = false := p2_no (fun _ e => absurd (hc.symm.trans e.1) (by decide))
  have hix : ixOf s[q] < 0 := by rw [hc]; decide
  have hdec : decide ((q : Int) + 1 < (s.size : Int)) = false := by simp; omega
  have te : ((q : Int) == (s.size : Int)) = false := by rw [beq_eq_false_iff_ne]; omega
  clear r pu hc
  have hcall := skip_at s p b q w hs hp hb h0 h1 hf HQ
  unfold tok0 at hcall
  unfold NextPost
  generalize tokOf (s.data.toList.drop q) = T at *
  clear h0 h1 hf HQ
  have hne : ¬ b = w.heap.size := by omega
  have hne' : ¬ w.heap.size = b := by omega
  have hq' : (q : Int) ≤ (s.size : Int) := by omega
  go_enter Try.func28, Try.ntmps28
  go_wp2_with fail
  refine hcall.mono ?_
  clear hcall
  rintro e w1 ⟨rfl, HA⟩
  obtain ⟨g0, g1, gf, ho, r0, r1, r2, f0, f1, f2⟩ := id HA
  go_wp2_with (first | (go_at_call 35; refine (isLetter_val ha _).mono ?_; rintro e w' ⟨rfl, rfl⟩) | (go_at_call 36; refine (isDigit_val hd _).mono ?_; rintro e w' ⟨rfl, rfl⟩) | (go_at_call 38; refine (hasPre _ _ _ _ _).mono ?_; rintro e w' ⟨rfl, rfl⟩; first | rw [hp2] | rw [hpa] | rw [hpb]) | (go_at_call 39; refine (ix_any _ _).mono ?_; rintro e w' ⟨rfl, rfl⟩))
  go_quiet (fail)
  go_wp2_with fail
  go_region
  go_wp2_with fail
  refine bodyPost_ret (v := .agg #[.int .i64 6, .string (s.extract q (q + 1)), .int .i64 q]) (by simp [results, Try.results28, go_sem, r0, r1, r2]) rfl ?_
  refine ⟨_, by rw [HT.out]; rfl, ?_⟩
  exact next_postN hb (HA.next hb ((HA.lex.set _).drew _) (k' := q + 1) (by omega)) (len := 1) (by rw [HT.out]) (by omega) (text_len (by omega))

set_option maxRecDepth 100000 in
set_option maxHeartbeats 4000000 in
theorem next_r0a (s : ByteArray) (p b q : Nat) (w : World) (hs : s.size ≤ 1048576) (hp : p ≤ s.size) (hb : b < w.heap.size)
    (h0 : w.cell? ⟨b, 0, none⟩ = some (.string s)) (h1 : w.cell? ⟨b, 1, none⟩ = some (.int .i64 p)) (hf : w.frozen? ⟨b, 1, none⟩ = false) (HQ : Hid (mach (s.data.toList.drop p) 0 0 0 p = q))
    (r : Rest s q) (hq : q < s.size) (h46 : ¬ s[q] = 46) (h36 : ¬ s[q] = 36) (h47 : ¬ s[q] = 47) (h58 : ¬ s[q] = 58) (h124 : ¬ s[q] = 124) (h60 : ¬ s[q] = 60) (h62 : ¬ s[q] = 62) (hix : 0 ≤ ixOf s[q]) :
    Calls Try.prog 28 #[.pointer (some ⟨b, 0, none⟩)] w (NextPost w b s q (tokOf (s.data.toList.drop q))) := by
  have pu : punct (s.data.toList.drop q) = 1 := pu_one hq (fun _ => two_head h58 h124 h60 h62) (ix_one hix)
  have HT : Hid (tokOf (s.data.toList.drop q) = (6, 1)) := by
    show tokOf (s.data.toList.drop q) = (6, 1)
    rw [tk_rest r]; rw [pu]; rfl
  have ha : alpha s[q] = false := r.notAlpha
  have hd : dig s[q] = false := r.notDig
  have t39 : ((s[q].toNat : Int) == 39) = false := byte_ne r.quote
  have t46 : ((s[q].toNat : Int) == 46) = false := byte_ne h46
  have t36 : ((s[q].toNat : Int) == 36) = false := byte_ne h36
  have t60 : ((s[q].toNat : Int) == 60) = false := byte_ne h60
  have t62 : ((s[q].toNat : Int) == 62) = false := byte_ne h62
  have hp2 : p2 s q 47 42 = false := p2_no (fun _ e => h47 e.1)
  have hpa : p2 s q 58 58 = false := p2_no (fun _ e => h58 e.1)
  have hpb : p2 s q 124 124 = false := p2_no (fun _ e => h124 e.1)
  have te : ((q : Int) == (s.size : Int)) = false := by rw [beq_eq_false_iff_ne]; omega
  clear r pu h46 h36 h47 h58 h124 h60 h62
  have hcall := skip_at s p b q w hs hp hb h0 h1 hf HQ
  unfold tok0 at hcall
  unfold NextPost
  generalize tokOf (s.data.toList.drop q) = T at *
  clear h0 h1 hf HQ
  have hne : ¬ b = w.heap.size := by omega
  have hne' : ¬ w.heap.size = b := by omega
  have hq' : (q : Int) ≤ (s.size : Int) := by omega
  go_enter Try.func28, Try.ntmps28
  go_wp2_with fail
  refine hcall.mono ?_
  clear hcall
  rintro e w1 ⟨rfl, HA⟩
  obtain ⟨g0, g1, gf, ho, r0, r1, r2, f0, f1, f2⟩ := id HA
  go_wp2_with (first | (go_at_call 35; refine (isLetter_val ha _).mono ?_; rintro e w' ⟨rfl, rfl⟩) | (go_at_call 36; refine (isDigit_val hd _).mono ?_; rintro e w' ⟨rfl, rfl⟩) | (go_at_call 38; refine (hasPre _ _ _ _ _).mono ?_; rintro e w' ⟨rfl, rfl⟩; first | rw [hp2] | rw [hpa] | rw [hpb]) | (go_at_call 39; refine (ix_any _ _).mono ?_; rintro e w' ⟨rfl, rfl⟩))
  go_region
  go_wp2_with fail
  refine bodyPost_ret (v := .agg #[.int .i64 6, .string (s.extract q (q + 1)), .int .i64 q]) (by simp [results, Try.results28, go_sem, r0, r1, r2]) rfl ?_
  refine ⟨_, by rw [HT.out]; rfl, ?_⟩
  exact next_post hb (HA.next hb (HA.lex.set _) (k' := q + 1) (by omega)) (len := 1) (by rw [HT.out]) (by omega) (text_len (by omega))

set_option maxRecDepth 100000 in
set_option maxHeartbeats 4000000 in
theorem next_r0b (s : ByteArray) (p b q : Nat) (w : World) (hs : s.size ≤ 1048576) (hp : p ≤ s.size) (hb : b < w.heap.size)
    (h0 : w.cell? ⟨b, 0, none⟩ = some (.string s)) (h1 : w.cell? ⟨b, 1, none⟩ = some (.int .i64 p)) (hf : w.frozen? ⟨b, 1, none⟩ = false) (HQ : Hid (mach (s.data.toList.drop p) 0 0 0 p = q))
    (r : Rest s q) (hq : q < s.size) (h46 : ¬ s[q] = 46) (h36 : ¬ s[q] = 36) (h47 : ¬ s[q] = 47) (h58 : ¬ s[q] = 58) (h124 : ¬ s[q] = 124) (h60 : ¬ s[q] = 60) (h62 : ¬ s[q] = 62) (hix : ixOf s[q] < 0) :
    Calls Try.prog 28 #[.pointer (some ⟨b, 0, none⟩)] w (NextPost w b s q (tokOf (s.data.toList.drop q))) := by
  have pu : punct (s.data.toList.drop q) = 0 := pu_none hq (fun _ => two_head h58 h124 h60 h62) (ix_none hix h60 h62)
  have HT : Hid (tokOf (s.data.toList.drop q) = (7, 1)) := by
    show tokOf (s.data.toList.drop q) = (7, 1)
    rw [tk_rest r]; rw [pu]; rfl
  have ha : alpha s[q] = false := r.notAlpha
  have hd : dig s[q] = false := r.notDig
  have t39 : ((s[q].toNat : Int) == 39) = false := byte_ne r.quote
  have t46 : ((s[q].toNat : Int) == 46) = false := byte_ne h46
  have t36 : ((s[q].toNat : Int) == 36) = false := byte_ne h36
  have t60 : ((s[q].toNat : Int) == 60) = false := byte_ne h60
  have t62 : ((s[q].toNat : Int) == 62) = false := byte_ne h62
  have hp2 : p2 s q 47 42 = false := p2_no (fun _ e => h47 e.1)
  have hpa : p2 s q 58 58 = false := p2_no (fun _ e => h58 e.1)
  have hpb : p2 s q 124 124 = false := p2_no (fun _ e => h124 e.1)
  have te : ((q : Int) == (s.size : Int)) = false := by rw [beq_eq_false_iff_ne]; omega
  clear r pu h46 h36 h47 h58 h124 h60 h62
  have hcall := skip_at s p b q w hs hp hb h0 h1 hf HQ
  unfold tok0 at hcall
  unfold NextPost
  generalize tokOf (s.data.toList.drop q) = T at *
  clear h0 h1 hf HQ
  have hne : ¬ b = w.heap.size := by omega
  have hne' : ¬ w.heap.size = b := by omega
  have hq' : (q : Int) ≤ (s.size : Int) := by omega
  go_enter Try.func28, Try.ntmps28
  go_wp2_with fail
  refine hcall.mono ?_
  clear hcall
  rintro e w1 ⟨rfl, HA⟩
  obtain ⟨g0, g1, gf, ho, r0, r1, r2, f0, f1, f2⟩ := id HA
  go_wp2_with (first | (go_at_call 35; refine (isLetter_val ha _).mono ?_; rintro e w' ⟨rfl, rfl⟩) | (go_at_call 36; refine (isDigit_val hd _).mono ?_; rintro e w' ⟨rfl, rfl⟩) | (go_at_call 38; refine (hasPre _ _ _ _ _).mono ?_; rintro e w' ⟨rfl, rfl⟩; first | rw [hp2] | rw [hpa] | rw [hpb]) | (go_at_call 39; refine (ix_any _ _).mono ?_; rintro e w' ⟨rfl, rfl⟩))
  go_region
  go_wp2_with fail
  refine bodyPost_ret (v := .agg #[.int .i64 7, .string (s.extract q (q + 1)), .int .i64 q]) (by simp [results, Try.results28, go_sem, r0, r1, r2]) rfl ?_
  refine ⟨_, by rw [HT.out]; rfl, ?_⟩
  exact next_post hb (HA.next hb (HA.lex.set _) (k' := q + 1) (by omega)) (len := 1) (by rw [HT.out]) (by omega) (text_len (by omega))

end Go.Proofs.Qxb6601015a.SK
