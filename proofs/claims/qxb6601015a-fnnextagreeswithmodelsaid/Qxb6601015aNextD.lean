/-
  THE WALK of (*Lexer).Next (28): operators and illegal bytes.
-/
import Derived.Test.Qxb6601015aNextA
import Derived.BigQuiet
namespace Go.Proofs.Qxb6601015a.SK
open Go Go.RowKit

set_option maxRecDepth 100000 in
set_option maxHeartbeats 4000000 in
theorem next_r46a (s : ByteArray) (p b q : Nat) (w : World) (hs : s.size ≤ 1048576) (hp : p ≤ s.size) (hb : b < w.heap.size)
    (h0 : w.cell? ⟨b, 0, none⟩ = some (.string s)) (h1 : w.cell? ⟨b, 1, none⟩ = some (.int .i64 p)) (hf : w.frozen? ⟨b, 1, none⟩ = false) (HQ : Hid (mach (s.data.toList.drop p) 0 0 0 p = q))
    (r : Rest s q) (hq : q < s.size) (hc : s[q] = 46) (hq1 : q + 1 < s.size) :
    Calls Try.prog 28 #[.pointer (some ⟨b, 0, none⟩)] w (NextPost w b s q (tokOf (s.data.toList.drop q))) := by
  have pu : punct (s.data.toList.drop q) = 1 := pu_one hq (fun _ => two_head (by rw [hc]; decide) (by rw [hc]; decide) (by rw [hc]; decide) (by rw [hc]; decide)) (by rw [hc]; decide)
  have HT : Hid (tokOf (s.data.toList.drop q) = (6, 1)) := by
    show tokOf (s.data.toList.drop q) = (6, 1)
    rw [tk_rest r]; rw [pu]; rfl
  have ha : alpha s[q] = false := r.notAlpha
  have hd : dig s[q] = false := r.notDig
  have t39 : ((s[q].toNat : Int) == 39) = false := byte_ne r.quote
  have t46 : ((s[q].toNat : Int) == 46) = true := by rw [hc]; rfl
  have t36 : ((s[q].toNat : Int) == 36) = false := by rw [hc]; rfl
  have t60 : ((s[q].toNat : Int) == 60) = false := by rw [hc]; rfl
  have t62 : ((s[q].toNat : Int) == 62) = false := by rw [hc]; rfl
  have hp2 : p2 s q 47 42 = false := p2_no (fun _ e => absurd (hc.symm.trans e.1) (by decide))
  have hpa : p2 s q 58 58 = false := p2_no (fun _ e => absurd (hc.symm.trans e.1) (by decide))
  have hpb : p2 s q 124 124 = false := p2_no (fun _ e => absurd (hc.symm.trans e.1) (by decide))
  have hix : 0 ≤ ixOf s[q] := by rw [hc]; decide
  have hd1 : dig s[q + 1] = false := r.dot hc hq1
  have te : ((q : Int) == (s.size : Int)) = false := by rw [beq_eq_false_iff_ne]; omega
  clear r pu hc
  have hcall := skip_at s p b q w hs hp hb h0 h1 hf HQ
  unfold tok0 at hcall
  unfold NextPost
  generalize tokOf (s.data.toList.drop q) = T at *
  clear h0 h1 hf HQ
  have hne : ¬ b = w.heap.size := by omega
  have hne' : ¬ w.heap.size = b := by omega
  have hq' : (q : Int) ≤ (s.size : Int) := by omega
  go_enter Try.func28, Try.ntmps28
  go_wp2_with fail
  refine hcall.mono ?_
  clear hcall
  rintro e w1 ⟨rfl, HA⟩
  obtain ⟨g0, g1, gf, ho, r0, r1, r2, f0, f1, f2⟩ := id HA
  go_wp2_with (first | (go_at_call 35; refine (isLetter_val ha _).mono ?_; rintro e w' ⟨rfl, rfl⟩) | (go_at_call 36; first | (refine (isDigit_val hd _).mono ?_; rintro e w' ⟨rfl, rfl⟩) | (refine (isDigit_val hd1 _).mono ?_; rintro e w' ⟨rfl, rfl⟩)) | (go_at_call 38; refine (hasPre _ _ _ _ _).mono ?_; rintro e w' ⟨rfl, rfl⟩; first | rw [hp2] | rw [hpa] | rw [hpb]) | (go_at_call 39; refine (ix_any _ _).mono ?_; rintro e w' ⟨rfl, rfl⟩))
  go_region
  go_wp2_with fail
  refine bodyPost_ret (v := .agg #[.int .i64 6, .string (s.extract q (q + 1)), .int .i64 q]) (by simp [results, Try.results28, go_sem, r0, r1, r2]) rfl ?_
  refine ⟨_, by rw [HT.out]; rfl, ?_⟩
  exact next_post hb (HA.next hb (HA.lex.set _) (k' := q + 1) (by omega)) (len := 1) (by rw [HT.out]) (by omega) (text_len (by omega))

set_option maxRecDepth 100000 in
set_option maxHeartbeats 4000000 in
theorem next_r46b (s : ByteArray) (p b q : Nat) (w : World) (hs : s.size ≤ 1048576) (hp : p ≤ s.size) (hb : b < w.heap.size)
    (h0 : w.cell? ⟨b, 0, none⟩ = some (.string s)) (h1 : w.cell? ⟨b, 1, none⟩ = some (.int .i64 p)) (hf : w.frozen? ⟨b, 1, none⟩ = false) (HQ : Hid (mach (s.data.toList.drop p) 0 0 0 p = q))
    (r : Rest s q) (hq : q < s.size) (hc : s[q] = 46) (hq1 : ¬ q + 1 < s.size) :
    Calls Try.prog 28 #[.pointer (some ⟨b, 0, none⟩)] w (NextPost w b s q (tokOf (s.data.toList.drop q))) := by
  have pu : punct (s.data.toList.drop q) = 1 := pu_one hq (fun _ => two_head (by rw [hc]; decide) (by rw [hc]; decide) (by rw [hc]; decide) (by rw [hc]; decide)) (by rw [hc]; decide)
  have HT : Hid (tokOf (s.data.toList.drop q) = (6, 1)) := by
    show tokOf (s.data.toList.drop q) = (6, 1)
    rw [tk_rest r]; rw [pu]; rfl
  have ha : alpha s[q] = false := r.notAlpha
  have hd : dig s[q] = false := r.notDig
  have t39 : ((s[q].toNat : Int) == 39) = false := byte_ne r.quote
  have t46 : ((s[q].toNat : Int) == 46) = true := by rw [hc]; rfl
  have t36 : ((s[q].toNat : Int) == 36) = false := by rw [hc]; rfl
  have t60 : ((s[q].toNat : Int) == 60) = false := by rw [hc]; rfl
  have t62 : ((s[q].toNat : Int) == 62) = false := by rw [hc]; rfl
  have hp2 : p2 s q 47 42 = false := p2_no (fun _ e => absurd (hc.symm.trans e.1) (by decide))
  have hpa : p2 s q 58 58 = false := p2_no (fun _ e => absurd (hc.symm.trans e.1) (by decide))
  have hpb : p2 s q 124 124 = false := p2_no (fun _ e => absurd (hc.symm.trans e.1) (by decide))
  have hix : 0 ≤ ixOf s[q] := by rw [hc]; decide
  have te : ((q : Int) == (s.size : Int)) = false := by rw [beq_eq_false_iff_ne]; omega
  clear r pu hc
  have hcall := skip_at s p b q w hs hp hb h0 h1 hf HQ
  unfold tok0 at hcall
  unfold NextPost
  generalize tokOf (s.data.toList.drop q) = T at *
  clear h0 h1 hf HQ
  have hne : ¬ b = w.heap.size := by omega
  have hne' : ¬ w.heap.size = b := by omega
  have hq' : (q : Int) ≤ (s.size : Int) := by omega
  go_enter Try.func28, Try.ntmps28
  go_wp2_with fail
  refine hcall.mono ?_
  clear hcall
  rintro e w1 ⟨rfl, HA⟩
  obtain ⟨g0, g1, gf, ho, r0, r1, r2, f0, f1, f2⟩ := id HA
  go_wp2_with (first | (go_at_call 35; refine (isLetter_val ha _).mono ?_; rintro e w' ⟨rfl, rfl⟩) | (go_at_call 36; refine (isDigit_val hd _).mono ?_; rintro e w' ⟨rfl, rfl⟩) | (go_at_call 38; refine (hasPre _ _ _ _ _).mono ?_; rintro e w' ⟨rfl, rfl⟩; first | rw [hp2] | rw [hpa] | rw [hpb]) | (go_at_call 39; refine (ix_any _ _).mono ?_; rintro e w' ⟨rfl, rfl⟩))
  go_region
  go_wp2_with fail
  refine bodyPost_ret (v := .agg #[.int .i64 6, .string (s.extract q (q + 1)), .int .i64 q]) (by simp [results, Try.results28, go_sem, r0, r1, r2]) rfl ?_
  refine ⟨_, by rw [HT.out]; rfl, ?_⟩
  exact next_post hb (HA.next hb (HA.lex.set _) (k' := q + 1) (by omega)) (len := 1) (by rw [HT.out]) (by omega) (text_len (by omega))

set_option maxRecDepth 100000 in
set_option maxHeartbeats 4000000 in
theorem next_r36a (s : ByteArray) (p b q : Nat) (w : World) (hs : s.size ≤ 1048576) (hp : p ≤ s.size) (hb : b < w.heap.size)
    (h0 : w.cell? ⟨b, 0, none⟩ = some (.string s)) (h1 : w.cell? ⟨b, 1, none⟩ = some (.int .i64 p)) (hf : w.frozen? ⟨b, 1, none⟩ = false) (HQ : Hid (mach (s.data.toList.drop p) 0 0 0 p = q))
    (r : Rest s q) (hq : q < s.size) (hc : s[q] = 36) (hq1 : q + 1 < s.size) :
    Calls Try.prog 28 #[.pointer (some ⟨b, 0, none⟩)] w (NextPost w b s q (tokOf (s.data.toList.drop q))) := by
  have pu : punct (s.data.toList.drop q) = 0 := pu_none hq (fun _ => two_head (by rw [hc]; decide) (by rw [hc]; decide) (by rw [hc]; decide) (by rw [hc]; decide)) (by rw [hc]; decide)
  have HT : Hid (tokOf (s.data.toList.drop q) = (7, 1)) := by
    show tokOf (s.data.toList.drop q) = (7, 1)
    rw [tk_rest r]; rw [pu]; rfl
  have ha : alpha s[q] = false := r.notAlpha
  have hd : dig s[q] = false := r.notDig
  have t39 : ((s[q].toNat : Int) == 39) = false := byte_ne r.quote
  have t46 : ((s[q].toNat : Int) == 46) = false := by rw [hc]; rfl
  have t36 : ((s[q].toNat : Int) == 36) = true := by rw [hc]; rfl
  have t60 : ((s[q].toNat : Int) == 60) = false := by rw [hc]; rfl
  have t62 : ((s[q].toNat : Int) == 62) = false := by rw [hc]; rfl
  have hp2 : p2 s q 47 42 = false := p2_no (fun _ e => absurd (hc.symm.trans e.1) (by decide))
  have hpa : p2 s q 58 58 = false := p2_no (fun _ e => absurd (hc.symm.trans e.1) (by decide))
  have hpb : p2 s q 124 124 = false := p2_no (fun _ e => absurd (hc.symm.trans e.1) (by decide))
  have hix : ixOf s[q] < 0 := by rw [hc]; decide
  have hd1 : dig s[q + 1] = false := r.dollar hc hq1
  have te : ((q : Int) == (s.size : Int)) = false := by rw [beq_eq_false_iff_ne]; omega
  clear r pu hc
  have hcall := skip_at s p b q w hs hp hb h0 h1 hf HQ
  unfold tok0 at hcall
  unfold NextPost
  generalize tokOf (s.data.toList.drop q) = T at *
  clear h0 h1 hf HQ
  have hne : ¬ b = w.heap.size := by omega
  have hne' : ¬ w.heap.size = b := by omega
  have hq' : (q : Int) ≤ (s.size : Int) := by omega
  go_enter Try.func28, Try.ntmps28
  go_wp2_with fail
  refine hcall.mono ?_
  clear hcall
  rintro e w1 ⟨rfl, HA⟩
  obtain ⟨g0, g1, gf, ho, r0, r1, r2, f0, f1, f2⟩ := id HA
  go_wp2_with (first | (go_at_call 35; refine (isLetter_val ha _).mono ?_; rintro e w' ⟨rfl, rfl⟩) | (go_at_call 36; first | (refine (isDigit_val hd _).mono ?_; rintro e w' ⟨rfl, rfl⟩) | (refine (isDigit_val hd1 _).mono ?_; rintro e w' ⟨rfl, rfl⟩)) | (go_at_call 38; refine (hasPre _ _ _ _ _).mono ?_; rintro e w' ⟨rfl, rfl⟩; first | rw [hp2] | rw [hpa] | rw [hpb]) | (go_at_call 39; refine (ix_any _ _).mono ?_; rintro e w' ⟨rfl, rfl⟩))
  go_region
  go_wp2_with fail
  refine bodyPost_ret (v := .agg #[.int .i64 7, .string (s.extract q (q + 1)), .int .i64 q]) (by simp [results, Try.results28, go_sem, r0, r1, r2]) rfl ?_
  refine ⟨_, by rw [HT.out]; rfl, ?_⟩
  exact next_post hb (HA.next hb (HA.lex.set _) (k' := q + 1) (by omega)) (len := 1) (by rw [HT.out]) (by omega) (text_len (by omega))

set_option maxRecDepth 100000 in
set_option maxHeartbeats 4000000 in
theorem next_r36b (s : ByteArray) (p b q : Nat) (w : World) (hs : s.size ≤ 1048576) (hp : p ≤ s.size) (hb : b < w.heap.size)
    (h0 : w.cell? ⟨b, 0, none⟩ = some (.string s)) (h1 : w.cell? ⟨b, 1, none⟩ = some (.int .i64 p)) (hf : w.frozen? ⟨b, 1, none⟩ = false) (HQ : Hid (mach (s.data.toList.drop p) 0 0 0 p = q))
    (r : Rest s q) (hq : q < s.size) (hc : s[q] = 36) (hq1 : ¬ q + 1 < s.size) :
    Calls Try.prog 28 #[.pointer (some ⟨b, 0, none⟩)] w (NextPost w b s q (tokOf (s.data.toList.drop q))) := by
  have pu : punct (s.data.toList.drop q) = 0 := pu_none hq (fun _ => two_head (by rw [hc]; decide) (by rw [hc]; decide) (by rw [hc]; decide) (by rw [hc]; decide)) (by rw [hc]; decide)
  have HT : Hid (tokOf (s.data.toList.drop q) = (7, 1)) := by
    show tokOf (s.data.toList.drop q) = (7, 1)
    rw [tk_rest r]; rw [pu]; rfl
  have ha : alpha s[q] = false := r.notAlpha
  have hd : dig s[q] = false := r.notDig
  have t39 : ((s[q].toNat : Int) == 39) = false := byte_ne r.quote
  have t46 : ((s[q].toNat : Int) == 46) = false := by rw [hc]; rfl
  have t36 : ((s[q].toNat : Int) == 36) = true := by rw [hc]; rfl
  have t60 : ((s[q].toNat : Int) == 60) = false := by rw [hc]; rfl
  have t62 : ((s[q].toNat : Int) == 62) = false := by rw [hc]; rfl
  have hp2 : p2 s q 47 42 = false := p2_no (fun _ e => absurd (hc.symm.trans e.1) (by decide))
  have hpa : p2 s q 58 58 = false := p2_no (fun _ e => absurd (hc.symm.trans e.1) (by decide))
  have hpb : p2 s q 124 124 = false := p2_no (fun _ e => absurd (hc.symm.trans e.1) (by decide))
  have hix : ixOf s[q] < 0 := by rw [hc]; decide
  have te : ((q : Int) == (s.size : Int)) = false := by rw [beq_eq_false_iff_ne]; omega
  clear r pu hc
  have hcall := skip_at s p b q w hs hp hb h0 h1 hf HQ
  unfold tok0 at hcall
  unfold NextPost
  generalize tokOf (s.data.toList.drop q) = T at *
  clear h0 h1 hf HQ
  have hne : ¬ b = w.heap.size := by omega
  have hne' : ¬ w.heap.size = b := by omega
  have hq' : (q : Int) ≤ (s.size : Int) := by omega
  go_enter Try.func28, Try.ntmps28
  go_wp2_with fail
  refine hcall.mono ?_
  clear hcall
  rintro e w1 ⟨rfl, HA⟩
  obtain ⟨g0, g1, gf, ho, r0, r1, r2, f0, f1, f2⟩ := id HA
  go_wp2_with (first | (go_at_call 35; refine (isLetter_val ha _).mono ?_; rintro e w' ⟨rfl, rfl⟩) | (go_at_call 36; refine (isDigit_val hd _).mono ?_; rintro e w' ⟨rfl, rfl⟩) | (go_at_call 38; refine (hasPre _ _ _ _ _).mono ?_; rintro e w' ⟨rfl, rfl⟩; first | rw [hp2] | rw [hpa] | rw [hpb]) | (go_at_call 39; refine (ix_any _ _).mono ?_; rintro e w' ⟨rfl, rfl⟩))
  go_region
  go_wp2_with fail
  refine bodyPost_ret (v := .agg #[.int .i64 7, .string (s.extract q (q + 1)), .int .i64 q]) (by simp [results, Try.results28, go_sem, r0, r1, r2]) rfl ?_
  refine ⟨_, by rw [HT.out]; rfl, ?_⟩
  exact next_post hb (HA.next hb (HA.lex.set _) (k' := q + 1) (by omega)) (len := 1) (by rw [HT.out]) (by omega) (text_len (by omega))

set_option maxRecDepth 100000 in
set_option maxHeartbeats 4000000 in
theorem next_r47 (s : ByteArray) (p b q : Nat) (w : World) (hs : s.size ≤ 1048576) (hp : p ≤ s.size) (hb : b < w.heap.size)
    (h0 : w.cell? ⟨b, 0, none⟩ = some (.string s)) (h1 : w.cell? ⟨b, 1, none⟩ = some (.int .i64 p)) (hf : w.frozen? ⟨b, 1, none⟩ = false) (HQ : Hid (mach (s.data.toList.drop p) 0 0 0 p = q))
    (r : Rest s q) (hq : q < s.size) (hc : s[q] = 47) :
    Calls Try.prog 28 #[.pointer (some ⟨b, 0, none⟩)] w (NextPost w b s q (tokOf (s.data.toList.drop q))) := by
  have pu : punct (s.data.toList.drop q) = 1 := pu_one hq (fun _ => two_head (by rw [hc]; decide) (by rw [hc]; decide) (by rw [hc]; decide) (by rw [hc]; decide)) (by rw [hc]; decide)
  have HT : Hid (tokOf (s.data.toList.drop q) = (6, 1)) := by
    show tokOf (s.data.toList.drop q) = (6, 1)
    rw [tk_rest r]; rw [pu]; rfl
  have ha : alpha s[q] = false := r.notAlpha
  have hd : dig s[q] = false := r.notDig
  have t39 : ((s[q].toNat : Int) == 39) = false := byte_ne r.quote
  have t46 : ((s[q].toNat : Int) == 46) = false := by rw [hc]; rfl
  have t36 : ((s[q].toNat : Int) == 36) = false := by rw [hc]; rfl
  have t60 : ((s[q].toNat : Int) == 60) = false := by rw [hc]; rfl
  have t62 : ((s[q].toNat : Int) == 62) = false := by rw [hc]; rfl
  have hp2 : p2 s q 47 42 = false := p2_no (fun h e => r.slash hc h e.2)
  have hpa : p2 s q 58 58 = false := p2_no (fun _ e => absurd (hc.symm.trans e.1) (by decide))
  have hpb : p2 s q 124 124 = false := p2_no (fun _ e => absurd (hc.symm.trans e.1) (by decide))
  have hix : 0 ≤ ixOf s[q] := by rw [hc]; decide
  have te : ((q : Int) == (s.size : Int)) = false := by rw [beq_eq_false_iff_ne]; omega
  clear r pu hc
  have hcall := skip_at s p b q w hs hp hb h0 h1 hf HQ
  unfold tok0 at hcall
  unfold NextPost
  generalize tokOf (s.data.toList.drop q) = T at *
  clear h0 h1 hf HQ
  have hne : ¬ b = w.heap.size := by omega
  have hne' : ¬ w.heap.size = b := by omega
  have hq' : (q : Int) ≤ (s.size : Int) := by omega
  go_enter Try.func28, Try.ntmps28
  go_wp2_with fail
  refine hcall.mono ?_
  clear hcall
  rintro e w1 ⟨rfl, HA⟩
  obtain ⟨g0, g1, gf, ho, r0, r1, r2, f0, f1, f2⟩ := id HA
  go_wp2_with (first | (go_at_call 35; refine (isLetter_val ha _).mono ?_; rintro e w' ⟨rfl, rfl⟩) | (go_at_call 36; refine (isDigit_val hd _).mono ?_; rintro e w' ⟨rfl, rfl⟩) | (go_at_call 38; refine (hasPre _ _ _ _ _).mono ?_; rintro e w' ⟨rfl, rfl⟩; first | rw [hp2] | rw [hpa] | rw [hpb]) | (go_at_call 39; refine (ix_any _ _).mono ?_; rintro e w' ⟨rfl, rfl⟩))
  go_region
  go_wp2_with fail
  refine bodyPost_ret (v := .agg #[.int .i64 6, .string (s.extract q (q + 1)), .int .i64 q]) (by simp [results, Try.results28, go_sem, r0, r1, r2]) rfl ?_
  refine ⟨_, by rw [HT.out]; rfl, ?_⟩
  exact next_post hb (HA.next hb (HA.lex.set _) (k' := q + 1) (by omega)) (len := 1) (by rw [HT.out]) (by omega) (text_len (by omega))

set_option maxRecDepth 100000 in
set_option maxHeartbeats 4000000 in
theorem next_r58a (s : ByteArray) (p b q : Nat) (w : World) (hs : s.size ≤ 1048576) (hp : p ≤ s.size) (hb : b < w.heap.size)
    (h0 : w.cell? ⟨b, 0, none⟩ = some (.string s)) (h1 : w.cell? ⟨b, 1, none⟩ = some (.int .i64 p)) (hf : w.frozen? ⟨b, 1, none⟩ = false) (HQ : Hid (mach (s.data.toList.drop p) 0 0 0 p = q))
    (r : Rest s q) (hq : q < s.size) (hc : s[q] = 58) (hq1 : q + 1 < s.size) (hn : s[q + 1] = 58) :
    Calls Try.prog 28 #[.pointer (some ⟨b, 0, none⟩)] w (NextPost w b s q (tokOf (s.data.toList.drop q))) := by
  have pu : punct (s.data.toList.drop q) = 2 := pu_two hq1 (by rw [hc, hn]; decide)
  have HT : Hid (tokOf (s.data.toList.drop q) = (6, 2)) := by
    show tokOf (s.data.toList.drop q) = (6, 2)
    rw [tk_rest r]; rw [pu]; rfl
  have ha : alpha s[q] = false := r.notAlpha
  have hd : dig s[q] = false := r.notDig
  have t39 : ((s[q].toNat : Int) == 39) = false := byte_ne r.quote
  have t46 : ((s[q].toNat : Int) == 46) = false := by rw [hc]; rfl
  have t36 : ((s[q].toNat : Int) == 36) = false := by rw [hc]; rfl
  have t60 : ((s[q].toNat : Int) == 60) = false := by rw [hc]; rfl
  have t62 : ((s[q].toNat : Int) == 62) = false := by rw [hc]; rfl
  have hp2 : p2 s q 47 42 = false := p2_no (fun _ e => absurd (hc.symm.trans e.1) (by decide))
  have hpa : p2 s q 58 58 = true := p2_yes hq1 hc hn
  have te : ((q : Int) == (s.size : Int)) = false := by rw [beq_eq_false_iff_ne]; omega
  clear r pu hc hn
  have hcall := skip_at s p b q w hs hp hb h0 h1 hf HQ
  unfold tok0 at hcall
  unfold NextPost
  generalize tokOf (s.data.toList.drop q) = T at *
  clear h0 h1 hf HQ
  have hne : ¬ b = w.heap.size := by omega
  have hne' : ¬ w.heap.size = b := by omega
  have hq' : (q : Int) ≤ (s.size : Int) := by omega
  go_enter Try.func28, Try.ntmps28
  go_wp2_with fail
  refine hcall.mono ?_
  clear hcall
  rintro e w1 ⟨rfl, HA⟩
  obtain ⟨g0, g1, gf, ho, r0, r1, r2, f0, f1, f2⟩ := id HA
  go_wp2_with (first | (go_at_call 35; refine (isLetter_val ha _).mono ?_; rintro e w' ⟨rfl, rfl⟩) | (go_at_call 36; refine (isDigit_val hd _).mono ?_; rintro e w' ⟨rfl, rfl⟩) | (go_at_call 38; refine (hasPre _ _ _ _ _).mono ?_; rintro e w' ⟨rfl, rfl⟩; first | rw [hp2] | rw [hpa]))
  go_region
  go_wp2_with fail
  refine bodyPost_ret (v := .agg #[.int .i64 6, .string (s.extract q (q + 2)), .int .i64 q]) (by simp [results, Try.results28, go_sem, r0, r1, r2]) rfl ?_
  refine ⟨_, by rw [HT.out]; rfl, ?_⟩
  exact next_post hb (HA.next hb (HA.lex.set _) (k' := q + 2) (by omega)) (len := 2) (by rw [HT.out]) (by omega) (text_len (by omega))

set_option maxRecDepth 100000 in
set_option maxHeartbeats 4000000 in
theorem next_r58b (s : ByteArray) (p b q : Nat) (w : World) (hs : s.size ≤ 1048576) (hp : p ≤ s.size) (hb : b < w.heap.size)
    (h0 : w.cell? ⟨b, 0, none⟩ = some (.string s)) (h1 : w.cell? ⟨b, 1, none⟩ = some (.int .i64 p)) (hf : w.frozen? ⟨b, 1, none⟩ = false) (HQ : Hid (mach (s.data.toList.drop p) 0 0 0 p = q))
    (r : Rest s q) (hq : q < s.size) (hc : s[q] = 58) (hnx : ∀ h : q + 1 < s.size, ¬ s[q + 1] = 58) :
    Calls Try.prog 28 #[.pointer (some ⟨b, 0, none⟩)] w (NextPost w b s q (tokOf (s.data.toList.drop q))) := by
  have pu : punct (s.data.toList.drop q) = 1 := pu_one hq (fun h => by rw [hc]; unfold two; simp [hnx h]) (by rw [hc]; decide)
  have HT : Hid (tokOf (s.data.toList.drop q) = (6, 1)) := by
    show tokOf (s.data.toList.drop q) = (6, 1)
    rw [tk_rest r]; rw [pu]; rfl
  have ha : alpha s[q] = false := r.notAlpha
  have hd : dig s[q] = false := r.notDig
  have t39 : ((s[q].toNat : Int) == 39) = false := byte_ne r.quote
  have t46 : ((s[q].toNat : Int) == 46) = false := by rw [hc]; rfl
  have t36 : ((s[q].toNat : Int) == 36) = false := by rw [hc]; rfl
  have t60 : ((s[q].toNat : Int) == 60) = false := by rw [hc]; rfl
  have t62 : ((s[q].toNat : Int) == 62) = false := by rw [hc]; rfl
  have hp2 : p2 s q 47 42 = false := p2_no (fun _ e => absurd (hc.symm.trans e.1) (by decide))
  have hpa : p2 s q 58 58 = false := p2_no (fun h e => hnx h e.2)
  have hpb : p2 s q 124 124 = false := p2_no (fun _ e => absurd (hc.symm.trans e.1) (by decide))
  have hix : 0 ≤ ixOf s[q] := by rw [hc]; decide
  have te : ((q : Int) == (s.size : Int)) = false := by rw [beq_eq_false_iff_ne]; omega
  clear r pu hc hnx
  have hcall := skip_at s p b q w hs hp hb h0 h1 hf HQ
  unfold tok0 at hcall
  unfold NextPost
  generalize tokOf (s.data.toList.drop q) = T at *
  clear h0 h1 hf HQ
  have hne : ¬ b = w.heap.size := by omega
  have hne' : ¬ w.heap.size = b := by omega
  have hq' : (q : Int) ≤ (s.size : Int) := by omega
  go_enter Try.func28, Try.ntmps28
  go_wp2_with fail
  refine hcall.mono ?_
  clear hcall
  rintro e w1 ⟨rfl, HA⟩
  obtain ⟨g0, g1, gf, ho, r0, r1, r2, f0, f1, f2⟩ := id HA
  go_wp2_with (first | (go_at_call 35; refine (isLetter_val ha _).mono ?_; rintro e w' ⟨rfl, rfl⟩) | (go_at_call 36; refine (isDigit_val hd _).mono ?_; rintro e w' ⟨rfl, rfl⟩) | (go_at_call 38; refine (hasPre _ _ _ _ _).mono ?_; rintro e w' ⟨rfl, rfl⟩; first | rw [hp2] | rw [hpa] | rw [hpb]) | (go_at_call 39; refine (ix_any _ _).mono ?_; rintro e w' ⟨rfl, rfl⟩))
  go_region
  go_wp2_with fail
  refine bodyPost_ret (v := .agg #[.int .i64 6, .string (s.extract q (q + 1)), .int .i64 q]) (by simp [results, Try.results28, go_sem, r0, r1, r2]) rfl ?_
  refine ⟨_, by rw [HT.out]; rfl, ?_⟩
  exact next_post hb (HA.next hb (HA.lex.set _) (k' := q + 1) (by omega)) (len := 1) (by rw [HT.out]) (by omega) (text_len (by omega))

set_option maxRecDepth 100000 in
set_option maxHeartbeats 4000000 in
theorem next_r124a (s : ByteArray) (p b q : Nat) (w : World) (hs : s.size ≤ 1048576) (hp : p ≤ s.size) (hb : b < w.heap.size)
    (h0 : w.cell? ⟨b, 0, none⟩ = some (.string s)) (h1 : w.cell? ⟨b, 1, none⟩ = some (.int .i64 p)) (hf : w.frozen? ⟨b, 1, none⟩ = false) (HQ : Hid (mach (s.data.toList.drop p) 0 0 0 p = q))
    (r : Rest s q) (hq : q < s.size) (hc : s[q] = 124) (hq1 : q + 1 < s.size) (hn : s[q + 1] = 124) :
    Calls Try.prog 28 #[.pointer (some ⟨b, 0, none⟩)] w (NextPost w b s q (tokOf (s.data.toList.drop q))) := by
  have pu : punct (s.data.toList.drop q) = 2 := pu_two hq1 (by rw [hc, hn]; decide)
  have HT : Hid (tokOf (s.data.toList.drop q) = (6, 2)) := by
    show tokOf (s.data.toList.drop q) = (6, 2)
    rw [tk_rest r]; rw [pu]; rfl
  have ha : alpha s[q] = false := r.notAlpha
  have hd : dig s[q] = false := r.notDig
  have t39 : ((s[q].toNat : Int) == 39) = false := byte_ne r.quote
  have t46 : ((s[q].toNat : Int) == 46) = false := by rw [hc]; rfl
  have t36 : ((s[q].toNat : Int) == 36) = false := by rw [hc]; rfl
  have t60 : ((s[q].toNat : Int) == 60) = false := by rw [hc]; rfl
  have t62 : ((s[q].toNat : Int) == 62) = false := by rw [hc]; rfl
  have hp2 : p2 s q 47 42 = false := p2_no (fun _ e => absurd (hc.symm.trans e.1) (by decide))
  have hpa : p2 s q 58 58 = false := p2_no (fun _ e => absurd (hc.symm.trans e.1) (by decide))
  have hpb : p2 s q 124 124 = true := p2_yes hq1 hc hn
  have te : ((q : Int) == (s.size : Int)) = false := by rw [beq_eq_false_iff_ne]; omega
  clear r pu hc hn
  have hcall := skip_at s p b q w hs hp hb h0 h1 hf HQ
  unfold tok0 at hcall
  unfold NextPost
  generalize tokOf (s.data.toList.drop q) = T at *
  clear h0 h1 hf HQ
  have hne : ¬ b = w.heap.size := by omega
  have hne' : ¬ w.heap.size = b := by omega
  have hq' : (q : Int) ≤ (s.size : Int) := by omega
  go_enter Try.func28, Try.ntmps28
  go_wp2_with fail
  refine hcall.mono ?_
  clear hcall
  rintro e w1 ⟨rfl, HA⟩
  obtain ⟨g0, g1, gf, ho, r0, r1, r2, f0, f1, f2⟩ := id HA
  go_wp2_with (first | (go_at_call 35; refine (isLetter_val ha _).mono ?_; rintro e w' ⟨rfl, rfl⟩) | (go_at_call 36; refine (isDigit_val hd _).mono ?_; rintro e w' ⟨rfl, rfl⟩) | (go_at_call 38; refine (hasPre _ _ _ _ _).mono ?_; rintro e w' ⟨rfl, rfl⟩; first | rw [hp2] | rw [hpa] | rw [hpb]))
  go_region
  go_wp2_with fail
  refine bodyPost_ret (v := .agg #[.int .i64 6, .string (s.extract q (q + 2)), .int .i64 q]) (by simp [results, Try.results28, go_sem, r0, r1, r2]) rfl ?_
  refine ⟨_, by rw [HT.out]; rfl, ?_⟩
  exact next_post hb (HA.next hb (HA.lex.set _) (k' := q + 2) (by omega)) (len := 2) (by rw [HT.out]) (by omega) (text_len (by omega))

set_option maxRecDepth 100000 in
set_option maxHeartbeats 4000000 in
theorem next_r124b (s : ByteArray) (p b q : Nat) (w : World) (hs : s.size ≤ 1048576) (hp : p ≤ s.size) (hb : b < w.heap.size)
    (h0 : w.cell? ⟨b, 0, none⟩ = some (.string s)) (h1 : w.cell? ⟨b, 1, none⟩ = some (.int .i64 p)) (hf : w.frozen? ⟨b, 1, none⟩ = false) (HQ : Hid (mach (s.data.toList.drop p) 0 0 0 p = q))
    (r : Rest s q) (hq : q < s.size) (hc : s[q] = 124) (hnx : ∀ h : q + 1 < s.size, ¬ s[q + 1] = 124) :
    Calls Try.prog 28 #[.pointer (some ⟨b, 0, none⟩)] w (NextPost w b s q (tokOf (s.data.toList.drop q))) := by
  have pu : punct (s.data.toList.drop q) = 0 := pu_none hq (fun h => by rw [hc]; unfold two; simp [hnx h]) (by rw [hc]; decide)
  have HT : Hid (tokOf (s.data.toList.drop q) = (7, 1)) := by
    show tokOf (s.data.toList.drop q) = (7, 1)
    rw [tk_rest r]; rw [pu]; rfl
  have ha : alpha s[q] = false := r.notAlpha
  have hd : dig s[q] = false := r.notDig
  have t39 : ((s[q].toNat : Int) == 39) = false := byte_ne r.quote
  have t46 : ((s[q].toNat : Int) == 46) = false := by rw [hc]; rfl
  have t36 : ((s[q].toNat : Int) == 36) = false := by rw [hc]; rfl
  have t60 : ((s[q].toNat : Int) == 60) = false := by rw [hc]; rfl
  have t62 : ((s[q].toNat : Int) == 62) = false := by rw [hc]; rfl
  have hp2 : p2 s q 47 42 = false := p2_no (fun _ e => absurd (hc.symm.trans e.1) (by decide))
  have hpa : p2 s q 58 58 = false := p2_no (fun _ e => absurd (hc.symm.trans e.1) (by decide))
  have hpb : p2 s q 124 124 = false := p2_no (fun h e => hnx h e.2)
  have hix : ixOf s[q] < 0 := by rw [hc]; decide
  have te : ((q : Int) == (s.size : Int)) = false := by rw [beq_eq_false_iff_ne]; omega
  clear r pu hc hnx
  have hcall := skip_at s p b q w hs hp hb h0 h1 hf HQ
  unfold tok0 at hcall
  unfold NextPost
  generalize tokOf (s.data.toList.drop q) = T at *
  clear h0 h1 hf HQ
  have hne : ¬ b = w.heap.size := by omega
  have hne' : ¬ w.heap.size = b := by omega
  have hq' : (q : Int) ≤ (s.size : Int) := by omega
  go_enter Try.func28, Try.ntmps28
  go_wp2_with fail
  refine hcall.mono ?_
  clear hcall
  rintro e w1 ⟨rfl, HA⟩
  obtain ⟨g0, g1, gf, ho, r0, r1, r2, f0, f1, f2⟩ := id HA
  go_wp2_with (first | (go_at_call 35; refine (isLetter_val ha _).mono ?_; rintro e w' ⟨rfl, rfl⟩) | (go_at_call 36; refine (isDigit_val hd _).mono ?_; rintro e w' ⟨rfl, rfl⟩) | (go_at_call 38; refine (hasPre _ _ _ _ _).mono ?_; rintro e w' ⟨rfl, rfl⟩; first | rw [hp2] | rw [hpa] | rw [hpb]) | (go_at_call 39; refine (ix_any _ _).mono ?_; rintro e w' ⟨rfl, rfl⟩))
  go_region
  go_wp2_with fail
  refine bodyPost_ret (v := .agg #[.int .i64 7, .string (s.extract q (q + 1)), .int .i64 q]) (by simp [results, Try.results28, go_sem, r0, r1, r2]) rfl ?_
  refine ⟨_, by rw [HT.out]; rfl, ?_⟩
  exact next_post hb (HA.next hb (HA.lex.set _) (k' := q + 1) (by omega)) (len := 1) (by rw [HT.out]) (by omega) (text_len (by omega))

end Go.Proofs.Qxb6601015a.SK
