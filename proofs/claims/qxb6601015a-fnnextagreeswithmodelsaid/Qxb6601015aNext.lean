/-
  (*Lexer).Next (28): all cases joined; its shim ZZNext (12); the law FnNextAgreesWithModel (3).
-/
import Derived.Test.Qxb6601015aNextB
import Derived.Test.Qxb6601015aNextC
import Derived.Test.Qxb6601015aNextD
import Derived.Test.Qxb6601015aNextE
import Derived.Test.Qxb6601015aNextF
import Derived.Test.Qxb6601015aNextM
namespace Go.Proofs.Qxb6601015a.SK
open Go Go.RowKit

theorem next_any (s : ByteArray) (p b q : Nat) (w : World) (hs : s.size ≤ 1048576) (hp : p ≤ s.size) (hb : b < w.heap.size)
    (h0 : w.cell? ⟨b, 0, none⟩ = some (.string s)) (h1 : w.cell? ⟨b, 1, none⟩ = some (.int .i64 p)) (hf : w.frozen? ⟨b, 1, none⟩ = false) (HQ : Hid (mach (s.data.toList.drop p) 0 0 0 p = q)) (hq : q ≤ s.size) :
    Calls Try.prog 28 #[.pointer (some ⟨b, 0, none⟩)] w (NextPost w b s q (tokOf (s.data.toList.drop q))) := by
  by_cases hlt : q < s.size
  · rcases tk_cases hlt with h | ⟨h1', h2⟩ | ⟨h1', h2, h3⟩ | h | ⟨h1', h2, h3⟩ | ⟨h1', h2, h3⟩ | r
    · exact next_alpha s p b q w hs hp hb h0 h1 hf HQ hlt h
    · exact next_num1 s p b q w hs hp hb h0 h1 hf HQ hlt h1' h2
    · exact next_num2 s p b q w hs hp hb h0 h1 hf HQ h1' h2 h3
    · exact next_str s p b q w hs hp hb h0 h1 hf HQ hlt h
    · exact next_ph s p b q w hs hp hb h0 h1 hf HQ h1' h2 h3
    · exact next_cmt s p b q w hs hp hb h0 h1 hf HQ h1' h2 h3
    · by_cases c46 : s[q] = 46
      · by_cases n : q + 1 < s.size
        · exact next_r46a s p b q w hs hp hb h0 h1 hf HQ r hlt c46 n
        · exact next_r46b s p b q w hs hp hb h0 h1 hf HQ r hlt c46 n
      by_cases c36 : s[q] = 36
      · by_cases n : q + 1 < s.size
        · exact next_r36a s p b q w hs hp hb h0 h1 hf HQ r hlt c36 n
        · exact next_r36b s p b q w hs hp hb h0 h1 hf HQ r hlt c36 n
      by_cases c47 : s[q] = 47
      · exact next_r47 s p b q w hs hp hb h0 h1 hf HQ r hlt c47
      by_cases c58 : s[q] = 58
      · by_cases n : ∃ h : q + 1 < s.size, s[q + 1] = 58
        · obtain ⟨n1, n2⟩ := n
          exact next_r58a s p b q w hs hp hb h0 h1 hf HQ r hlt c58 n1 n2
        · exact next_r58b s p b q w hs hp hb h0 h1 hf HQ r hlt c58 (fun h e => n ⟨h, e⟩)
      by_cases c124 : s[q] = 124
      · by_cases n : ∃ h : q + 1 < s.size, s[q + 1] = 124
        · obtain ⟨n1, n2⟩ := n
          exact next_r124a s p b q w hs hp hb h0 h1 hf HQ r hlt c124 n1 n2
        · exact next_r124b s p b q w hs hp hb h0 h1 hf HQ r hlt c124 (fun h e => n ⟨h, e⟩)
      by_cases c60 : s[q] = 60
      · by_cases n : q + 1 < s.size
        · by_cases n1 : s[q + 1] = 61
          · exact next_r60a s p b q w hs hp hb h0 h1 hf HQ r hlt c60 n n1
          by_cases n2 : s[q + 1] = 62
          · exact next_r60b s p b q w hs hp hb h0 h1 hf HQ r hlt c60 n n2
          exact next_r60c s p b q w hs hp hb h0 h1 hf HQ r hlt c60 n n1 n2
        · exact next_r60d s p b q w hs hp hb h0 h1 hf HQ r hlt c60 n
      by_cases c62 : s[q] = 62
      · by_cases n : q + 1 < s.size
        · by_cases n1 : s[q + 1] = 61
          · exact next_r62a s p b q w hs hp hb h0 h1 hf HQ r hlt c62 n n1
          exact next_r62b s p b q w hs hp hb h0 h1 hf HQ r hlt c62 n n1
        · exact next_r62c s p b q w hs hp hb h0 h1 hf HQ r hlt c62 n
      by_cases hix : 0 ≤ ixOf s[q]
      · exact next_r0a s p b q w hs hp hb h0 h1 hf HQ r hlt c46 c36 c47 c58 c124 c60 c62 hix
      · exact next_r0b s p b q w hs hp hb h0 h1 hf HQ r hlt c46 c36 c47 c58 c124 c60 c62 (by omega)
  · exact next_eof s p b q w hs hp hb h0 h1 hf HQ hq hlt

set_option maxRecDepth 100000 in
set_option maxHeartbeats 1000000 in
theorem zzNext_any (s : ByteArray) (p q : Nat) (w : World) (hs : s.size ≤ 1048576) (hp : p ≤ s.size) (HQ : Hid (mach (s.data.toList.drop p) 0 0 0 p = q)) (hq : q ≤ s.size) :
    Calls Try.prog 12 #[.string s, .int .i64 p] w fun e w' => ∃ X : ByteArray, e = .returned (.tuple #[.agg #[.int .i64 ((tokOf (s.data.toList.drop q)).1 : Nat), .string X, .int .i64 (q : Nat)], .int .i64 (q + (tokOf (s.data.toList.drop q)).2 : Nat)]) ∧ X.data.toList = (s.data.toList.drop q).take (tokOf (s.data.toList.drop q)).2 ∧ Below w.heap.size w w' := by
  generalize hT : tokOf (s.data.toList.drop q) = T
  have HT : Hid (tokOf (s.data.toList.drop q) = T) := hT
  clear hT
  go_enter Try.func12, Try.ntmps12
  go_wp2_with fail
  refine (next_any s p (w.heap.size + 1) q _ hs hp (by simp) (by simp) (by simp) (by simp) HQ hq).mono ?_
  rintro e w2 ⟨X, rfl, hX, c1, hB, hz⟩
  rw [HT.out] at hX c1
  rw [HT.out]
  have r0 : w2.cell? ⟨w.heap.size, 0, none⟩ = some (.int .i64 0) := by rw [hB.cell (by simp)]; simp
  have r1 : w2.cell? ⟨w.heap.size, 1, none⟩ = some (.string ⟨#[]⟩) := by rw [hB.cell (by simp)]; simp
  have r2 : w2.cell? ⟨w.heap.size, 2, none⟩ = some (.int .i64 0) := by rw [hB.cell (by simp)]; simp
  have f0 : w2.frozen? ⟨w.heap.size, 0, none⟩ = false := by rw [hB.frozen (by simp)]; simp
  have f1 : w2.frozen? ⟨w.heap.size, 1, none⟩ = false := by rw [hB.frozen (by simp)]; simp
  have f2 : w2.frozen? ⟨w.heap.size, 2, none⟩ = false := by rw [hB.frozen (by simp)]; simp
  have HB : Hid (Below w.heap.size w w2) := (((Below.refl _ _).alloc (Nat.le_refl _) _).alloc (by simp) _).trans (hB.mono (by simp))
  have hz1 : w.heap.size < w2.heap.size := by omega
  have hX' : Hid (X.data.toList = (s.data.toList.drop q).take T.2) := hX
  clear hX hB
  go_wp2_with fail
  go_region
  go_wp2_with fail
  refine bodyPost_ret (v := .tuple #[.agg #[.int .i64 T.1, .string X, .int .i64 q], .int .i64 ((q : Int) + T.2)]) (by simp [results, Try.results12, go_sem, r0, r1, r2, hz1]) rfl ?_
  exact ⟨X, by rw [Int.natCast_add], hX'.out, ((((HB.out.setCell (p := ⟨w.heap.size, 0, none⟩) (Nat.le_refl _) _).setCell (p := ⟨w.heap.size, 1, none⟩) (Nat.le_refl _) _).setCell (p := ⟨w.heap.size, 2, none⟩) (Nat.le_refl _) _).alloc (by simp; omega) _).drew⟩

set_option maxRecDepth 100000 in
set_option maxHeartbeats 1000000 in
theorem nextLaw_any (a0 : ByteArray) (a1 : Int) (w : World) :
    Calls Try.prog 3 #[.string a0, .int .i64 a1] w fun e w' => e = .returned (.bool true) ∧ Below w.heap.size w w' := by
  have out : (65536 < a0.size ∨ a1 < 0 ∨ (a0.size : Int) < a1) ∨ (a0.size ≤ 65536 ∧ 0 ≤ a1 ∧ a1 ≤ a0.size) := by omega
  rcases out with out | ⟨hs, hlo, hhi⟩
  · go_enter Try.func3, Try.ntmps3
    go_wp2
    all_goals go_ret
    all_goals exact ⟨rfl, Below.refl _ _⟩
  obtain ⟨p, rfl⟩ := Int.eq_ofNat_of_zero_le hlo
  have hp : p ≤ a0.size := by omega
  have hbs := mach_bounds (a0.data.toList.drop p) 0 0 0 p 0 (by omega) (by omega) (by omega)
  rw [List.length_drop, ← Lib.size_eq] at hbs
  obtain ⟨q, hQ⟩ : ∃ q, mach (a0.data.toList.drop p) 0 0 0 p = q := ⟨_, rfl⟩
  rw [hQ] at hbs
  have HQ : Hid (mach (a0.data.toList.drop p) 0 0 0 p = q) := hQ
  have hq : q ≤ a0.size := by omega
  have hle := tokOf_le (a0.data.toList.drop q)
  rw [List.length_drop, ← Lib.size_eq] at hle
  clear hQ hbs hlo hhi
  go_enter Try.func3, Try.ntmps3
  go_wp2_with (go_at_call 11; go_in)
  refine (zzNext_any a0 p q _ (by omega) hp HQ hq).mono ?_
  rintro e w1 ⟨X, rfl, hX, hB⟩
  go_wp2_with fail
  refine (nextModel_any a0 p q _ (by omega) hp hq HQ).mono ?_
  rintro e w2 ⟨rfl, rfl⟩
  have hXX : (X.toList == (a0.extract q (q + (tokOf (a0.data.toList.drop q)).2)).toList) = true := by
    rw [beq_iff_eq, Lib.toList_data, Lib.toList_data, hX, Lib.extract_data]
    congr 1; omega
  generalize tokOf (a0.data.toList.drop q) = T at *
  have h1 : (0 : Int) ≤ (q : Int) + T.2 := by omega
  have h2 : (q : Int) ≤ (q : Int) + T.2 := by omega
  have h3 : (q : Int) + T.2 ≤ (a0.size : Int) := by omega
  clear hX
  go_wp2_with fail
  go_quiet (fail)
  go_wp2_with fail
  go_ret
  exact ⟨rfl, below_drewN (hB.alloc hB.size _) _⟩
end Go.Proofs.Qxb6601015a.SK
