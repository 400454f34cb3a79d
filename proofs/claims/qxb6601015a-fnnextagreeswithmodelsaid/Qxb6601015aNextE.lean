/-
  THE WALK of (*Lexer).Next (28): the end of the text; a comment left open.
-/
import Derived.Test.Qxb6601015aNextA
namespace Go.Proofs.Qxb6601015a.SK
open Go Go.RowKit

set_option maxRecDepth 100000 in
set_option maxHeartbeats 4000000 in
theorem next_eof (s : ByteArray) (p b q : Nat) (w : World) (hs : s.size ≤ 1048576) (hp : p ≤ s.size) (hb : b < w.heap.size)
    (h0 : w.cell? ⟨b, 0, none⟩ = some (.string s)) (h1 : w.cell? ⟨b, 1, none⟩ = some (.int .i64 p)) (hf : w.frozen? ⟨b, 1, none⟩ = false) (HQ : Hid (mach (s.data.toList.drop p) 0 0 0 p = q))
    (hq : q ≤ s.size) (hn : ¬ q < s.size) :
    Calls Try.prog 28 #[.pointer (some ⟨b, 0, none⟩)] w (NextPost w b s q (tokOf (s.data.toList.drop q))) := by
  have HT : Hid (tokOf (s.data.toList.drop q) = (0, 0)) := tk_eof hn
  have te : ((q : Int) == (s.size : Int)) = true := by rw [beq_iff_eq]; omega
  have hcall := skip_at s p b q w hs hp hb h0 h1 hf HQ
  unfold tok0 at hcall
  unfold NextPost
  generalize tokOf (s.data.toList.drop q) = T at *
  clear h0 h1 hf HQ
  have hne : ¬ b = w.heap.size := by omega
  have hne' : ¬ w.heap.size = b := by omega
  have hq' : (q : Int) ≤ (s.size : Int) := by omega
  go_enter Try.func28, Try.ntmps28
  go_wp2_with fail
  refine hcall.mono ?_
  clear hcall
  rintro e w1 ⟨rfl, HA⟩
  obtain ⟨g0, g1, gf, ho, r0, r1, r2, f0, f1, f2⟩ := id HA
  go_wp2_with fail
  refine bodyPost_ret (v := .agg #[.int .i64 0, .string ⟨#[]⟩, .int .i64 q]) (by simp [results, Try.results28, go_sem, r0, r1, r2]) rfl ?_
  refine ⟨_, by rw [HT.out]; rfl, ?_⟩
  obtain ⟨p1, p2, p3, p4⟩ := next_post (X := ⟨#[]⟩) (v0 := .int .i64 0) (v1 := .string ⟨#[]⟩) (v2 := .int .i64 q) hb HA (len := 0) (T := T) (q := q) (by rw [HT.out]) (by omega) (by simp)
  exact ⟨p1, p2, ⟨p3.os, p3.tape, p3.output, p3.size, p3.block⟩, p4⟩

set_option maxRecDepth 100000 in
set_option maxHeartbeats 4000000 in
theorem next_cmt (s : ByteArray) (p b q : Nat) (w : World) (hs : s.size ≤ 1048576) (hp : p ≤ s.size) (hb : b < w.heap.size)
    (h0 : w.cell? ⟨b, 0, none⟩ = some (.string s)) (h1 : w.cell? ⟨b, 1, none⟩ = some (.int .i64 p)) (hf : w.frozen? ⟨b, 1, none⟩ = false) (HQ : Hid (mach (s.data.toList.drop p) 0 0 0 p = q))
    (hq : q + 1 < s.size) (hc : s[q] = 47) (hn : s[q + 1] = 42) :
    Calls Try.prog 28 #[.pointer (some ⟨b, 0, none⟩)] w (NextPost w b s q (tokOf (s.data.toList.drop q))) := by
  have HT : Hid (tokOf (s.data.toList.drop q) = (7, s.size - q)) := tk_cmt hq hc hn
  have ha : alpha s[q] = false := by rw [hc]; decide
  have hd : dig s[q] = false := by rw [hc]; decide
  have t46 : ((s[q].toNat : Int) == 46) = false := by rw [hc]; rfl
  have t39 : ((s[q].toNat : Int) == 39) = false := by rw [hc]; rfl
  have t36 : ((s[q].toNat : Int) == 36) = false := by rw [hc]; rfl
  have hp2 : p2 s q 47 42 = true := p2_yes hq hc hn
  have te : ((q : Int) == (s.size : Int)) = false := by rw [beq_eq_false_iff_ne]; omega
  clear hc hn
  have hcall := skip_at s p b q w hs hp hb h0 h1 hf HQ
  unfold tok0 at hcall
  unfold NextPost
  generalize tokOf (s.data.toList.drop q) = T at *
  clear h0 h1 hf HQ
  have hne : ¬ b = w.heap.size := by omega
  have hne' : ¬ w.heap.size = b := by omega
  have hq' : (q : Int) ≤ (s.size : Int) := by omega
  go_enter Try.func28, Try.ntmps28
  go_wp2_with fail
  refine hcall.mono ?_
  clear hcall
  rintro e w1 ⟨rfl, HA⟩
  obtain ⟨g0, g1, gf, ho, r0, r1, r2, f0, f1, f2⟩ := id HA
  go_wp2_with (first | (go_at_call 35; refine (isLetter_val ha _).mono ?_; rintro e w' ⟨rfl, rfl⟩) | (go_at_call 36; refine (isDigit_val hd _).mono ?_; rintro e w' ⟨rfl, rfl⟩) | (go_at_call 38; refine (hasPre _ _ _ _ _).mono ?_; rintro e w' ⟨rfl, rfl⟩; rw [hp2]))
  go_region
  go_wp2_with fail
  refine bodyPost_ret (v := .agg #[.int .i64 7, .string (s.extract q s.size), .int .i64 q]) (by simp [results, Try.results28, go_sem, r0, r1, r2]) rfl ?_
  refine ⟨_, by rw [HT.out]; rfl, ?_⟩
  exact next_post hb (HA.next hb (HA.lex.set _) (k' := s.size) rfl) (len := s.size - q) (by rw [HT.out]) (by omega) (text_len (by omega))

end Go.Proofs.Qxb6601015a.SK
