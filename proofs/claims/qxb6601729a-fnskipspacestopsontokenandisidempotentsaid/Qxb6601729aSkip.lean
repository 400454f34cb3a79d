/-
  THE WALKS of eof (24), skipLine (26), skipSpace (21), its shim (14), and of the model (15).
-/
import Derived.Test.Qxb6601729aProg
import Derived.Test.Qxb6601729aShelf
import Derived.Test.Qxb6601729aPlain
import Derived.Lib.IndexBytes
import Derived.WalkKit
import Derived.WalkSpells
import Derived.WalkLawsBesides
import Derived.Deep.LoopGhost
import Derived.Deep.QuietTactic
import Derived.BigQuiet
import Derived.Outline
namespace Go.Proofs.Qxb6601729a.SK
open Go Go.RowKit

theorem drop_cons (s : ByteArray) (k : Nat) (h : k < s.size) : s.data.toList.drop k = s[k] :: s.data.toList.drop (k + 1) := by
  have hl : k < s.data.toList.length := by rw [← Lib.size_eq]; exact h
  rw [List.drop_eq_getElem_cons hl]; rfl

theorem byte_eq {c : UInt8} {n : UInt8} (h : c = n) : ((c.toNat : Int) == (n.toNat : Int)) = true := by rw [h]; simp
theorem byte_ne {c : UInt8} {n : UInt8} (h : ¬ c = n) : ((c.toNat : Int) == (n.toNat : Int)) = false := by
  rw [beq_eq_false_iff_ne]; intro e; exact h (UInt8.toNat_inj.1 (by omega))

/-- Of all that was there only block b may have turned. -/
structure Only (b : Nat) (w w' : World) : Prop where
  os : w'.os = w.os
  tape : w'.tape = w.tape
  output : w'.output = w.output
  size : w'.heap.size = w.heap.size
  block : ∀ k, k ≠ b → w'.heap[k]? = w.heap[k]?

theorem Only.refl (b : Nat) (w : World) : Only b w w := ⟨rfl, rfl, rfl, rfl, fun _ _ => rfl⟩
theorem Only.trans {b : Nat} {u v w : World} (h : Only b u v) (k : Only b v w) : Only b u w :=
  ⟨k.os.trans h.os, k.tape.trans h.tape, k.output.trans h.output, k.size.trans h.size, fun i hi => (k.block i hi).trans (h.block i hi)⟩
theorem only_drewN {b : Nat} {u w : World} (h : Only b u w) (n : Nat) : Only b u (w.drewN n) := h.trans ⟨rfl, rfl, rfl, rfl, fun _ _ => rfl⟩
theorem Only.setCell {b : Nat} {u w : World} (h : Only b u w) (o : Nat) (v : Value) : Only b u (w.setCell ⟨b, o, none⟩ v) :=
  h.trans ⟨rfl, rfl, rfl, by simp [World.setCell], fun k hk => Below.heap_setCell _ _ _ _ hk⟩
theorem Only.below {b B : Nat} {w w' : World} (h : Only b w w') (hB : B ≤ b) : Below B w w' :=
  ⟨h.os, h.tape, h.output, Nat.le_of_eq h.size.symm, fun k hk => h.block k (by omega)⟩

/-- What a scanner in block b holds: its text and its place, which may be written. -/
def Scan (w : World) (b : Nat) (s : ByteArray) (k : Int) : Prop :=
  w.cell? ⟨b, 0, none⟩ = some (.string s) ∧ w.cell? ⟨b, 1, none⟩ = some (.int .i64 k) ∧ w.frozen? ⟨b, 1, none⟩ = false

theorem Scan.drewN {w : World} {b : Nat} {s : ByteArray} {k : Int} (h : Scan w b s k) (n : Nat) : Scan (w.drewN n) b s k := h

theorem Scan.set {w : World} {b : Nat} {s : ByteArray} {k : Int} (h : Scan w b s k) (k' : Int) : Scan (w.setCell ⟨b, 1, none⟩ (.int .i64 k')) b s k' := by
  refine ⟨?_, ?_, ?_⟩
  · rw [World.cell?_setCell_other _ _ _ _ (by simp)]; exact h.1
  · exact World.cell?_setCell_same _ _ _ h.2.1
  · rw [World.frozen?_setCell]; exact h.2.2

/-- A callee that turns nothing, met behind draws that have been added up. -/
theorem quiet_add {P : Program} {f : FuncId} {args : Array Value} {w : World} {n x : Nat} {v : Value}
    (h : Calls P f args (w.drewN (n + x)) fun e w' => e = .returned v ∧ w' = w.drewN (n + x)) : Calls P f args (w.drewN (n + x)) fun e w'' => e = .returned v ∧ ∃ m, w'' = w.drewN (n + m) :=
  h.mono fun _ _ ⟨he, hm⟩ => ⟨he, x, hm⟩

theorem ret_bool {a b : Bool} (h : a = b) : Ending.returned (.bool a) = .returned (.bool b) := by rw [h]
theorem ret_int {k : IntKind} {a b : Int} (h : a = b) : Ending.returned (.int k a) = .returned (.int k b) := by rw [h]

theorem eof_no (s : ByteArray) (k b : Nat) (w : World) (h : Scan w b s k) (hk : k < s.size) :
    Calls Try.prog 24 #[.pointer (some ⟨b, 0, none⟩)] w fun e w' => e = .returned (.bool false) ∧ ∃ n, w' = w.drewN n := by
  obtain ⟨g0, g1, _⟩ := h
  have hlt' : (k : Int) < (s.size : Int) := by omega
  go_enter Try.func24, Try.ntmps24
  go_wp2
  go_quiet (fail)
  go_wp2
  go_ret
  exact ⟨ret_bool (decide_eq_false (by omega)), _, rfl⟩

theorem eof_yes (s : ByteArray) (k b : Nat) (w : World) (h : Scan w b s k) (hk : ¬ k < s.size) :
    Calls Try.prog 24 #[.pointer (some ⟨b, 0, none⟩)] w fun e w' => e = .returned (.bool true) ∧ ∃ n, w' = w.drewN n := by
  obtain ⟨g0, g1, _⟩ := h
  have hlt' : ¬ (k : Int) < (s.size : Int) := by omega
  go_enter Try.func24, Try.ntmps24
  go_wp2
  go_quiet (fail)
  go_wp2
  go_ret
  exact ⟨rfl, _, rfl⟩

theorem skipLine_none (s : ByteArray) (k b : Nat) (w : World) (h : Scan w b s k) (hk : k < s.size) (hi : Lib.indexByte (s.data.toList.drop k) 10 < 0) :
    Calls Try.prog 26 #[.pointer (some ⟨b, 0, none⟩)] w fun e w' => e = .returned (.tuple #[]) ∧ Only b w w' ∧ Scan w' b s (s.size : Nat) := by
  have H := h
  obtain ⟨g0, g1, gf⟩ := h
  have HX : Hid ((s.extract k s.size).data.toList = s.data.toList.drop k) := Lib.extract_to_end s k
  go_enter Try.func26, Try.ntmps26
  go_wp2
  go_quiet ((go_at_call 28; exact Calls.quiet_of_same (Try.strings_IndexByte _ _ _)))
  rw [HX.out, show (10 : Int).toNat.toUInt8 = 10 from rfl]
  go_wp2
  go_end0
  exact ⟨rfl, (only_drewN (Only.refl _ _) _).setCell 1 _, (H.drewN _).set _⟩

theorem skipLine_some (s : ByteArray) (k b e : Nat) (w : World) (h : Scan w b s k) (hs : s.size ≤ 1048576) (hk : k < s.size) (hi : Lib.indexByte (s.data.toList.drop k) 10 = (e : Int)) (he : k + e ≤ s.size) :
    Calls Try.prog 26 #[.pointer (some ⟨b, 0, none⟩)] w fun r w' => r = .returned (.tuple #[]) ∧ Only b w w' ∧ Scan w' b s (k + e : Nat) := by
  have H := h
  obtain ⟨g0, g1, gf⟩ := h
  have HX : Hid ((s.extract k s.size).data.toList = s.data.toList.drop k) := Lib.extract_to_end s k
  have HE : Hid (Lib.indexByte (s.data.toList.drop k) 10 = (e : Int)) := hi
  clear hi
  go_enter Try.func26, Try.ntmps26
  go_wp2
  go_quiet ((go_at_call 28; exact Calls.quiet_of_same (Try.strings_IndexByte _ _ _)))
  rw [HX.out, show (10 : Int).toNat.toUInt8 = 10 from rfl, HE.out]
  go_wp2
  go_end0
  exact ⟨rfl, (only_drewN (Only.refl _ _) _).setCell 1 _, (H.drewN _).set _⟩


theorem mm_blank {s : ByteArray} {k R : Nat} (hlt : k < s.size) (H : mach (s.data.toList.drop k) false k = R) (hb : blank s[k]) : mach (s.data.toList.drop (k + 1)) false (k + 1) = R := by
  rw [← H, drop_cons s k hlt, way_blank k hb]
theorem mm_stop {s : ByteArray} {k R : Nat} (hlt : k < s.size) (H : mach (s.data.toList.drop k) false k = R) (hb : tok s[k]) : k = R := by
  rw [← H, drop_cons s k hlt, way_stop k hb]
theorem mm_end {s : ByteArray} {k R : Nat} {cm : Bool} (hn : ¬ k < s.size) (H : mach (s.data.toList.drop k) cm k = R) : k = R := by
  rw [← H, List.drop_eq_nil_of_le (by rw [← Lib.size_eq]; omega)]; rfl
theorem mm_none {s : ByteArray} {k R : Nat} (hlt : k < s.size) (H : mach (s.data.toList.drop k) false k = R) (hc : s[k] = 35) (hi : Lib.indexByte (s.data.toList.drop k) 10 < 0) : mach (s.data.toList.drop s.size) false s.size = R := by
  have hl : (s.data.toList.drop (k + 1)).length + 1 = s.size - k := by rw [List.length_drop, ← Lib.size_eq]; omega
  rw [drop_cons s k hlt, hc] at H hi
  rw [← H, way_none k hi, List.drop_eq_nil_of_le (by rw [← Lib.size_eq]; omega), hl, mach]
  omega
theorem mm_some {s : ByteArray} {k e R : Nat} (hlt : k < s.size) (H : mach (s.data.toList.drop k) false k = R) (hc : s[k] = 35) (hi : Lib.indexByte (s.data.toList.drop k) 10 = (e : Int)) :
    mach (s.data.toList.drop (k + e)) false (k + e) = R ∧ k + e < s.size ∧ 0 < e := by
  have hl : (s.data.toList.drop (k + 1)).length + 1 = s.size - k := by rw [List.length_drop, ← Lib.size_eq]; omega
  have hd := drop_cons s k hlt
  rw [hc] at hd
  rw [hd] at H hi
  obtain ⟨h1, h2⟩ := way_some k e hi
  refine ⟨?_, by omega, way_some_pos e hi⟩
  rw [← H, h2, ← hd, List.drop_drop]

/-- The round's end. -/
theorem scan_rel {w wr : World} {b g R : Nat} {s : ByteArray} {k v : Int} (k' : Nat) (hv : v = k') (h : Scan wr b s k) (hB : Only b w wr) (hg : s.size - k' ≤ g) (H : Hid (mach (s.data.toList.drop k') false k' = R)) :
    ∃ k : Nat, s.size - k ≤ g ∧ (wr.setCell ⟨b, 1, none⟩ (.int .i64 v)).cell? ⟨b, 0, none⟩ = some (.string s) ∧ (wr.setCell ⟨b, 1, none⟩ (.int .i64 v)).cell? ⟨b, 1, none⟩ = some (.int .i64 k) ∧
      (wr.setCell ⟨b, 1, none⟩ (.int .i64 v)).frozen? ⟨b, 1, none⟩ = false ∧ Only b w (wr.setCell ⟨b, 1, none⟩ (.int .i64 v)) ∧ Hid (mach (s.data.toList.drop k) false k = R) := by
  subst hv
  obtain ⟨q0, q1, qf⟩ := h.set (k' : Int)
  exact ⟨k', hg, q0, q1, qf, hB.setCell 1 _, H⟩

set_option maxRecDepth 100000 in
set_option maxHeartbeats 1000000 in
theorem skipSpace_any (s : ByteArray) (p b : Nat) (w : World) (hs : s.size ≤ 1048576) (h : Scan w b s p) :
    Calls Try.prog 21 #[.pointer (some ⟨b, 0, none⟩)] w fun e w' => e = .returned (.tuple #[]) ∧ Only b w w' ∧ Scan w' b s (mach (s.data.toList.drop p) false p) := by
  generalize hR : mach (s.data.toList.drop p) false p = R
  have HR : Hid (mach (s.data.toList.drop p) false p = R) := hR
  clear hR
  obtain ⟨h0, h1, hf⟩ := h
  go_enter Try.func21, Try.ntmps21
  go_wp2
  go_loopg [] s.size (fun g wr => ∃ k : Nat, s.size - k ≤ g ∧ wr.cell? ⟨b, 0, none⟩ = some (.string s) ∧ wr.cell? ⟨b, 1, none⟩ = some (.int .i64 k) ∧ wr.frozen? ⟨b, 1, none⟩ = false ∧ Only b w wr ∧ Hid (mach (s.data.toList.drop k) false k = R))
  case atStart => exact ⟨p, by omega, h0, h1, hf, Only.refl _ _, HR⟩
  case round =>
    obtain ⟨k, hg, g0, g1, gf, hB, H⟩ := hrel
    by_cases hlt : k < s.size
    · have hlt' : (k : Int) < (s.size : Int) := by omega
      by_cases c32 : s[k] = 32
      · have h32 : ((s[k].toNat : Int) == 32) = true := byte_eq (n := 32) c32
        have HN : Hid (mach (s.data.toList.drop (k + 1)) false (k + 1) = R) := mm_blank hlt H.out (.inl c32)
        clear c32
        go_wp2_with (go_at_call 24; refine (eof_no s k b _ ⟨g0, g1, gf⟩ hlt).mono ?_; rintro e w' ⟨rfl, n1, rfl⟩)
        go_quiet (fail)
        go_wp2
        go_roundg (s.size - (k + 1))
        case measure => omega
        case rel =>
          exact scan_rel (k + 1) (by omega) ⟨g0, g1, gf⟩ (only_drewN hB _) (by omega) HN
      have h32 : ((s[k].toNat : Int) == 32) = false := byte_ne (n := 32) c32
      by_cases c9 : s[k] = 9
      · have h9 : ((s[k].toNat : Int) == 9) = true := byte_eq (n := 9) c9
        have HN : Hid (mach (s.data.toList.drop (k + 1)) false (k + 1) = R) := mm_blank hlt H.out (.inr (.inl c9))
        clear c9
        go_wp2_with (go_at_call 24; refine (eof_no s k b _ ⟨g0, g1, gf⟩ hlt).mono ?_; rintro e w' ⟨rfl, n1, rfl⟩)
        go_quiet (fail)
        go_wp2
        go_roundg (s.size - (k + 1))
        case measure => omega
        case rel =>
          exact scan_rel (k + 1) (by omega) ⟨g0, g1, gf⟩ (only_drewN hB _) (by omega) HN
      have h9 : ((s[k].toNat : Int) == 9) = false := byte_ne (n := 9) c9
      by_cases c13 : s[k] = 13
      · have h13 : ((s[k].toNat : Int) == 13) = true := byte_eq (n := 13) c13
        have HN : Hid (mach (s.data.toList.drop (k + 1)) false (k + 1) = R) := mm_blank hlt H.out (.inr (.inr (.inl c13)))
        clear c13
        go_wp2_with (go_at_call 24; refine (eof_no s k b _ ⟨g0, g1, gf⟩ hlt).mono ?_; rintro e w' ⟨rfl, n1, rfl⟩)
        go_quiet (fail)
        go_wp2
        go_roundg (s.size - (k + 1))
        case measure => omega
        case rel =>
          exact scan_rel (k + 1) (by omega) ⟨g0, g1, gf⟩ (only_drewN hB _) (by omega) HN
      have h13 : ((s[k].toNat : Int) == 13) = false := byte_ne (n := 13) c13
      by_cases c10 : s[k] = 10
      · have h10 : ((s[k].toNat : Int) == 10) = true := byte_eq (n := 10) c10
        have HN : Hid (mach (s.data.toList.drop (k + 1)) false (k + 1) = R) := mm_blank hlt H.out (.inr (.inr (.inr c10)))
        clear c10
        go_wp2_with (go_at_call 24; refine (eof_no s k b _ ⟨g0, g1, gf⟩ hlt).mono ?_; rintro e w' ⟨rfl, n1, rfl⟩)
        go_quiet (fail)
        go_wp2
        go_roundg (s.size - (k + 1))
        case measure => omega
        case rel =>
          exact scan_rel (k + 1) (by omega) ⟨g0, g1, gf⟩ (only_drewN hB _) (by omega) HN
      have h10 : ((s[k].toNat : Int) == 10) = false := byte_ne (n := 10) c10
      by_cases c35 : s[k] = 35
      · have h35 : ((s[k].toNat : Int) == 35) = true := byte_eq (n := 35) c35
        by_cases hi : Lib.indexByte (s.data.toList.drop k) 10 < 0
        · have HN : Hid (mach (s.data.toList.drop s.size) false s.size = R) := mm_none hlt H.out c35 hi
          have HI : Hid (Lib.indexByte (s.data.toList.drop k) 10 < 0) := hi
          clear hi
          go_wp2_with (go_at_call 24; refine (eof_no s k b _ ⟨g0, g1, gf⟩ hlt).mono ?_; rintro e w' ⟨rfl, n1, rfl⟩)
          go_quiet (fail)
          go_wp2_with (go_at_call 26; refine (skipLine_none s k b _ (Scan.drewN ⟨g0, g1, gf⟩ _) hlt HI.out).mono ?_; rintro e w' ⟨rfl, hO, q0, q1, qf⟩)
          go_roundg (s.size - s.size)
          case measure => omega
          case rel => exact ⟨s.size, by omega, q0, q1, qf, (only_drewN hB _).trans hO, HN⟩
        · obtain ⟨e, he⟩ := Int.eq_ofNat_of_zero_le (Int.not_lt.1 hi)
          obtain ⟨hm, hke, he0⟩ := mm_some hlt H.out c35 he
          have HN : Hid (mach (s.data.toList.drop (k + e)) false (k + e) = R) := hm
          have HI : Hid (Lib.indexByte (s.data.toList.drop k) 10 = (e : Int)) := he
          clear hi he hm
          go_wp2_with (go_at_call 24; refine (eof_no s k b _ ⟨g0, g1, gf⟩ hlt).mono ?_; rintro e w' ⟨rfl, n1, rfl⟩)
          go_quiet (fail)
          go_wp2_with (go_at_call 26; refine (skipLine_some s k b e _ (Scan.drewN ⟨g0, g1, gf⟩ _) hs hlt HI.out (by omega)).mono ?_; rintro r w' ⟨rfl, hO, q0, q1, qf⟩)
          go_roundg (s.size - (k + e))
          case measure => omega
          case rel => exact ⟨k + e, by omega, q0, q1, qf, (only_drewN hB _).trans hO, HN⟩
      have h35 : ((s[k].toNat : Int) == 35) = false := byte_ne (n := 35) c35
      have HN : Hid (k = R) := mm_stop hlt H.out ⟨c32, c9, c13, c10, c35⟩
      go_wp2_with (go_at_call 24; refine (eof_no s k b _ ⟨g0, g1, gf⟩ hlt).mono ?_; rintro e w' ⟨rfl, n1, rfl⟩)
      go_quiet (fail)
      go_wp2
      refine bodyPost_ret (results_none rfl _ _ _) rfl ?_
      exact ⟨rfl, only_drewN hB _, g0, HN.out ▸ g1, gf⟩
    · have HN : Hid (k = R) := mm_end hlt H.out
      go_wp2_with (go_at_call 24; refine (eof_yes s k b _ ⟨g0, g1, gf⟩ hlt).mono ?_; rintro e w' ⟨rfl, n1, rfl⟩)
      go_end0
      exact ⟨rfl, only_drewN hB _, g0, HN.out ▸ g1, gf⟩

/-- The shim: a new scanner, skipSpace, its place. -/
theorem zzSkipSpace_any (s : ByteArray) (p : Nat) (w : World) (hs : s.size ≤ 1048576) (R : Nat) (hR : mach (s.data.toList.drop p) false p = R) :
    Calls Try.prog 14 #[.string s, .int .i64 p] w fun e w' => e = .returned (.int .i64 R) ∧ Below w.heap.size w w' := by
  have HR : Hid (mach (s.data.toList.drop p) false p = R) := hR
  clear hR
  go_enter Try.func14, Try.ntmps14
  go_wp2_with fail
  refine (skipSpace_any s p w.heap.size _ hs ⟨by simp, by simp, by simp⟩).mono ?_
  rintro e w' ⟨rfl, hB, q0, q1, qf⟩
  rw [HR.out] at q1
  go_wp2_with fail
  go_ret
  exact ⟨rfl, ((Below.refl _ _).alloc (Nat.le_refl _) _).trans (hB.below (Nat.le_refl _))⟩
end Go.Proofs.Qxb6601729a.SK
