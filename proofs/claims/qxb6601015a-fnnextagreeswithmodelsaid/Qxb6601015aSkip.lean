/-
  THE WALK of (*Lexer).skipSpace (32) and of its shim (15).
-/
import Derived.Test.Qxb6601015aSmall
import Derived.Test.Qxb6601015aModel
import Derived.Deep.LoopGhost
import Derived.Deep.QuietTactic
import Derived.BigQuiet
import Derived.Outline
namespace Go.Proofs.Qxb6601015a.SK
open Go Go.RowKit

theorem pre2 {L : List UInt8} {a b : UInt8} (h : Lib.hasPrefix L [a, b] = true) : ∃ l, L = a :: b :: l := by
  unfold Lib.hasPrefix at h
  obtain ⟨l, rfl⟩ := List.isPrefixOf_iff_prefix.1 h
  exact ⟨l, rfl⟩

theorem way_stop' {c : UInt8} {L : List UInt8} (i : Nat) (hb : blank c = false) (h1 : Lib.hasPrefix (c :: L) [45, 45] = false) (h2 : Lib.hasPrefix (c :: L) [47, 42] = false) : mach (c :: L) 0 0 0 i = i := by
  cases L with
  | nil => exact way_last i hb
  | cons d L =>
    refine way_stop i hb ?_ ?_
    · rintro ⟨rfl, rfl⟩; simp [Lib.hasPrefix, List.isPrefixOf] at h1
    · rintro ⟨rfl, rfl⟩; simp [Lib.hasPrefix, List.isPrefixOf] at h2

/-- Of all that was there only block b may have turned. -/
structure Only (b : Nat) (w w' : World) : Prop where
  os : w'.os = w.os
  tape : w'.tape = w.tape
  output : w'.output = w.output
  size : w'.heap.size = w.heap.size
  block : ∀ k, k ≠ b → w'.heap[k]? = w.heap[k]?

theorem Only.refl (b : Nat) (w : World) : Only b w w := ⟨rfl, rfl, rfl, rfl, fun _ _ => rfl⟩
theorem Only.trans {b : Nat} {u v w : World} (h : Only b u v) (k : Only b v w) : Only b u w :=
  ⟨k.os.trans h.os, k.tape.trans h.tape, k.output.trans h.output, k.size.trans h.size, fun i hi => (k.block i hi).trans (h.block i hi)⟩
theorem only_drewN {b : Nat} {u w : World} (h : Only b u w) (n : Nat) : Only b u (w.drewN n) := h.trans ⟨rfl, rfl, rfl, rfl, fun _ _ => rfl⟩
theorem Only.setCell {b : Nat} {u w : World} (h : Only b u w) (o : Nat) (v : Value) : Only b u (w.setCell ⟨b, o, none⟩ v) :=
  h.trans ⟨rfl, rfl, rfl, by simp [World.setCell], fun k hk => Below.heap_setCell _ _ _ _ hk⟩
theorem Only.below {b B : Nat} {w w' : World} (h : Only b w w') (hB : B ≤ b) : Below B w w' :=
  ⟨h.os, h.tape, h.output, Nat.le_of_eq h.size.symm, fun k hk => h.block k (by omega)⟩
theorem Only.cell {b : Nat} {w w' : World} (h : Only b w w') {a : Addr} (ha : a.block ≠ b) : w'.cell? a = w.cell? a := World.cell?_of_block (w := w) (h.block a.block ha)
theorem Only.frozen {b : Nat} {w w' : World} (h : Only b w w') {a : Addr} (ha : a.block ≠ b) : w'.frozen? a = w.frozen? a := World.frozen?_of_block (w := w) (h.block a.block ha)

/-- What a lexer in block b holds: its text and its place, which may be written. -/
theorem lex_step {w wr : World} {b : Nat} {s : ByteArray} {k : Int} (n : Nat) (k' : Int) (g0 : wr.cell? ⟨b, 0, none⟩ = some (.string s)) (g1 : wr.cell? ⟨b, 1, none⟩ = some (.int .i64 k)) (gf : wr.frozen? ⟨b, 1, none⟩ = false) (hB : Only b w wr) :
    ((wr.drewN n).setCell ⟨b, 1, none⟩ (.int .i64 k')).cell? ⟨b, 0, none⟩ = some (.string s) ∧ ((wr.drewN n).setCell ⟨b, 1, none⟩ (.int .i64 k')).cell? ⟨b, 1, none⟩ = some (.int .i64 k') ∧
    ((wr.drewN n).setCell ⟨b, 1, none⟩ (.int .i64 k')).frozen? ⟨b, 1, none⟩ = false ∧ Only b w ((wr.drewN n).setCell ⟨b, 1, none⟩ (.int .i64 k')) := by
  refine ⟨?_, ?_, ?_, ?_⟩
  · rw [World.cell?_setCell_other _ _ _ _ (by simp), World.cell?_drewN]; exact g0
  · exact World.cell?_setCell_same _ _ _ (u := .int .i64 k) (by rw [World.cell?_drewN]; exact g1)
  · rw [World.frozen?_setCell, World.frozen?_drewN]; exact gf
  · exact (only_drewN hB n).setCell 1 _

/-- The round's end. -/
theorem lex_rel {w wr : World} {b g R : Nat} {s : ByteArray} {k v : Int} {n : Nat} (k' : Nat) (hv : v = k') (g0 : wr.cell? ⟨b, 0, none⟩ = some (.string s)) (g1 : wr.cell? ⟨b, 1, none⟩ = some (.int .i64 k)) (gf : wr.frozen? ⟨b, 1, none⟩ = false) (hB : Only b w wr)
    (hk : k' ≤ s.size) (hg : s.size - k' ≤ g) (H : Hid (mach (s.data.toList.drop k') 0 0 0 k' = R)) :
    ∃ k : Nat, k ≤ s.size ∧ s.size - k ≤ g ∧ ((wr.drewN n).setCell ⟨b, 1, none⟩ (.int .i64 v)).cell? ⟨b, 0, none⟩ = some (.string s) ∧ ((wr.drewN n).setCell ⟨b, 1, none⟩ (.int .i64 v)).cell? ⟨b, 1, none⟩ = some (.int .i64 k) ∧
      ((wr.drewN n).setCell ⟨b, 1, none⟩ (.int .i64 v)).frozen? ⟨b, 1, none⟩ = false ∧ Only b w ((wr.drewN n).setCell ⟨b, 1, none⟩ (.int .i64 v)) ∧ Hid (mach (s.data.toList.drop k) 0 0 0 k = R) := by
  subst hv
  obtain ⟨q0, q1, qf, qB⟩ := lex_step n (k' : Int) g0 g1 gf hB
  exact ⟨k', hk, hg, q0, q1, qf, qB, H⟩

/-- A callee that turns nothing, met behind draws that have been added up. -/
theorem quiet_add {P : Program} {f : FuncId} {args : Array Value} {w : World} {n x : Nat} {v : Value}
    (h : Calls P f args (w.drewN (n + x)) fun e w' => e = .returned v ∧ w' = w.drewN (n + x)) : Calls P f args (w.drewN (n + x)) fun e w'' => e = .returned v ∧ ∃ m, w'' = w.drewN (n + m) :=
  h.mono fun _ _ ⟨he, hm⟩ => ⟨he, x, hm⟩

set_option maxRecDepth 100000 in
set_option maxHeartbeats 1000000 in
theorem skipSpace_any (s : ByteArray) (p b : Nat) (w : World) (hs : s.size ≤ 1048576) (hp : p ≤ s.size)
    (h0 : w.cell? ⟨b, 0, none⟩ = some (.string s)) (h1 : w.cell? ⟨b, 1, none⟩ = some (.int .i64 p)) (hf : w.frozen? ⟨b, 1, none⟩ = false) :
    Calls Try.prog 32 #[.pointer (some ⟨b, 0, none⟩)] w fun e w' => e = .returned (.tuple #[]) ∧ Only b w w' ∧ w'.cell? ⟨b, 0, none⟩ = some (.string s) ∧ w'.cell? ⟨b, 1, none⟩ = some (.int .i64 (mach (s.data.toList.drop p) 0 0 0 p)) ∧ w'.frozen? ⟨b, 1, none⟩ = false := by
  generalize hR : mach (s.data.toList.drop p) 0 0 0 p = R
  have HR : Hid (mach (s.data.toList.drop p) 0 0 0 p = R) := hR
  clear hR
  go_enter Try.func32, Try.ntmps32
  go_wp2
  go_loopg [] s.size (fun g wr => ∃ k : Nat, k ≤ s.size ∧ s.size - k ≤ g ∧ wr.cell? ⟨b, 0, none⟩ = some (.string s) ∧ wr.cell? ⟨b, 1, none⟩ = some (.int .i64 k) ∧ wr.frozen? ⟨b, 1, none⟩ = false ∧ Only b w wr ∧ Hid (mach (s.data.toList.drop k) 0 0 0 k = R))
  case atStart => exact ⟨p, hp, by omega, h0, h1, hf, Only.refl _ _, HR⟩
  case round =>
    obtain ⟨k, hk, hg, g0, g1, gf, hB, H⟩ := hrel
    have hx : (s.extract k s.size).data.toList = s.data.toList.drop k := Lib.extract_to_end s k
    have HX : Hid ((s.extract k s.size).data.toList = s.data.toList.drop k) := hx
    clear hx
    by_cases hlt : k < s.size
    · have hlt' : (k : Int) < (s.size : Int) := by omega
      by_cases hb : blank s[k] = true
      · have HN : Hid (mach (s.data.toList.drop (k + 1)) 0 0 0 (k + 1) = R) := mm_blank hlt H.out hb
        go_wp2
        go_quiet (fail)
        go_wp2
        go_quiet ((go_at_call 40; exact quiet_add (isSpace_any _ _)))
        rw [hb]
        go_wp2
        go_roundg (s.size - (k + 1))
        case measure => omega
        case rel =>
          exact lex_rel (k + 1) (by omega) g0 g1 gf hB (by omega) (by omega) HN
      · have hb' : blank s[k] = false := by simpa using hb
        clear hb
        by_cases hp1 : Lib.hasPrefix (s.data.toList.drop k) [45, 45] = true
        · obtain ⟨l, hl⟩ := pre2 hp1
          have hll : l.length + 2 = s.size - k := by
            have := congrArg List.length hl
            rw [List.length_drop, ← Lib.size_eq] at this
            simp only [List.length_cons] at this; omega
          have HL : Hid (s.data.toList.drop k = 45 :: 45 :: l) := hl
          clear hl
          by_cases hi : Lib.indexByte (s.data.toList.drop k) 10 < 0
          · have HN : Hid (mach (s.data.toList.drop s.size) 0 0 0 s.size = R) := by
              show mach (s.data.toList.drop s.size) 0 0 0 s.size = R
              rw [← H.out, HL.out, way_line_end k (by rw [← HL.out]; exact hi), List.drop_eq_nil_of_le (by rw [← Lib.size_eq]; exact Nat.le_refl _)]
              simp only [mach]; omega
            go_wp2
            go_quiet (fail)
            go_wp2
            go_quiet ((go_at_call 40; exact quiet_add (isSpace_any _ _)))
            rw [hb']
            go_wp2
            go_quiet ((go_at_call 38; exact quiet_add (Try.strings_HasPrefix _ _ _)))
            rw [HX.out, show (ByteArray.mk #[45, 45]).data.toList = [45, 45] from rfl, hp1]
            go_wp2
            go_quiet ((go_at_call 39; exact quiet_add (Try.strings_IndexByte _ _ _)))
            rw [HX.out, show (10 : Int).toNat.toUInt8 = 10 from rfl]
            go_wp2
            go_roundg (s.size - s.size)
            case measure => omega
            case rel =>
              exact lex_rel s.size rfl g0 g1 gf hB (by omega) (by omega) HN
          · obtain ⟨e, he⟩ := Int.eq_ofNat_of_zero_le (Int.not_lt.1 hi)
            obtain ⟨hw1, hw2, hw3⟩ := way_line (l := l) k e (by rw [← HL.out]; exact he)
            have HN : Hid (mach (s.data.toList.drop (k + e)) 0 0 0 (k + e) = R) := by
              show mach (s.data.toList.drop (k + e)) 0 0 0 (k + e) = R
              rw [← H.out, HL.out, hw1, ← HL.out, List.drop_drop]
            have HE : Hid (Lib.indexByte (s.data.toList.drop k) 10 = (e : Int)) := he
            clear he hi hw1
            go_wp2
            go_quiet (fail)
            go_wp2
            go_quiet ((go_at_call 40; exact quiet_add (isSpace_any _ _)))
            rw [hb']
            go_wp2
            go_quiet ((go_at_call 38; exact quiet_add (Try.strings_HasPrefix _ _ _)))
            rw [HX.out, show (ByteArray.mk #[45, 45]).data.toList = [45, 45] from rfl, hp1]
            go_wp2
            go_quiet ((go_at_call 39; exact quiet_add (Try.strings_IndexByte _ _ _)))
            rw [HX.out, show (10 : Int).toNat.toUInt8 = 10 from rfl, HE.out]
            go_wp2
            go_roundg (s.size - (k + e))
            case measure => omega
            case rel =>
              exact lex_rel (k + e) (by omega) g0 g1 gf hB (by omega) (by omega) HN
        · have hp1 : Lib.hasPrefix (s.data.toList.drop k) [45, 45] = false := by simpa using hp1
          by_cases hp2 : Lib.hasPrefix (s.data.toList.drop k) [47, 42] = true
          · obtain ⟨l, hl⟩ := pre2 hp2
            have HL : Hid (s.data.toList.drop k = 47 :: 42 :: l) := hl
            clear hl
            cases hc : cend (s.data.toList.drop k) 0 with
            | none =>
              have HN : Hid (k = R) := by
                show k = R
                rw [← H.out, HL.out, way_open k (by rw [← HL.out]; exact hc)]
              have HC : Hid (cend (s.data.toList.drop k) 0 = none) := hc
              clear hc
              go_wp2
              go_quiet (fail)
              go_wp2
              go_quiet ((go_at_call 40; exact quiet_add (isSpace_any _ _)))
              rw [hb']
              go_wp2
              go_quiet ((go_at_call 38; exact quiet_add (Try.strings_HasPrefix _ _ _)))
              rw [HX.out, show (ByteArray.mk #[45, 45]).data.toList = [45, 45] from rfl, hp1]
              go_wp2
              go_quiet ((go_at_call 38; exact quiet_add (Try.strings_HasPrefix _ _ _)))
              rw [HX.out, show (ByteArray.mk #[47, 42]).data.toList = [47, 42] from rfl, hp2]
              go_wp2
              go_quiet ((go_at_call 41; exact quiet_add (commentEnd_any _ _ (by simp; omega))))
              rw [HX.out, HC.out, show cendInt none = -1 from rfl]
              go_wp2
              refine bodyPost_ret (results_none rfl _ _ _) rfl ?_
              exact ⟨rfl, only_drewN hB _, g0, HN.out ▸ g1, gf⟩
            | some e =>
              have hr := cend_room _ _ _ hc
              rw [List.length_drop, ← Lib.size_eq] at hr
              have HN : Hid (mach (s.data.toList.drop (k + e)) 0 0 0 (k + e) = R) := by
                show mach (s.data.toList.drop (k + e)) 0 0 0 (k + e) = R
                rw [← H.out, HL.out, way_block k e (by rw [← HL.out]; exact hc), ← HL.out, List.drop_drop]
              have HC : Hid (cend (s.data.toList.drop k) 0 = some e) := hc
              clear hc
              go_wp2
              go_quiet (fail)
              go_wp2
              go_quiet ((go_at_call 40; exact quiet_add (isSpace_any _ _)))
              rw [hb']
              go_wp2
              go_quiet ((go_at_call 38; exact quiet_add (Try.strings_HasPrefix _ _ _)))
              rw [HX.out, show (ByteArray.mk #[45, 45]).data.toList = [45, 45] from rfl, hp1]
              go_wp2
              go_quiet ((go_at_call 38; exact quiet_add (Try.strings_HasPrefix _ _ _)))
              rw [HX.out, show (ByteArray.mk #[47, 42]).data.toList = [47, 42] from rfl, hp2]
              go_wp2
              go_quiet ((go_at_call 41; exact quiet_add (commentEnd_any _ _ (by simp; omega))))
              rw [HX.out, HC.out, show cendInt (some e) = (e : Int) from rfl]
              go_wp2
              go_roundg (s.size - (k + e))
              case measure => omega
              case rel =>
                exact lex_rel (k + e) (by omega) g0 g1 gf hB (by omega) (by omega) HN
          · have hp2 : Lib.hasPrefix (s.data.toList.drop k) [47, 42] = false := by simpa using hp2
            have HN : Hid (k = R) := by
              show k = R
              rw [← H.out]
              have e := drop_cons s k hlt
              rw [e] at hp1 hp2
              rw [e, way_stop' k hb' hp1 hp2]
            go_wp2
            go_quiet (fail)
            go_wp2
            go_quiet ((go_at_call 40; exact quiet_add (isSpace_any _ _)))
            rw [hb']
            go_wp2
            go_quiet ((go_at_call 38; exact quiet_add (Try.strings_HasPrefix _ _ _)))
            rw [HX.out, show (ByteArray.mk #[45, 45]).data.toList = [45, 45] from rfl, hp1]
            go_wp2
            go_quiet ((go_at_call 38; exact quiet_add (Try.strings_HasPrefix _ _ _)))
            rw [HX.out, show (ByteArray.mk #[47, 42]).data.toList = [47, 42] from rfl, hp2]
            go_wp2
            refine bodyPost_ret (results_none rfl _ _ _) rfl ?_
            exact ⟨rfl, only_drewN (only_drewN (only_drewN (only_drewN hB _) _) _) _, g0, HN.out ▸ g1, gf⟩
    · have HN : Hid (k = R) := mm_end hlt H.out
      go_wp2
      go_quiet (fail)
      go_wp2
      go_end0
      exact ⟨rfl, only_drewN hB _, g0, HN.out ▸ g1, gf⟩

/-- The shim: a new lexer, skipSpace, its place. -/
theorem zzSkipSpace_any (s : ByteArray) (p : Nat) (w : World) (hs : s.size ≤ 1048576) (hp : p ≤ s.size) :
    Calls Try.prog 15 #[.string s, .int .i64 p] w fun e w' => e = .returned (.int .i64 (mach (s.data.toList.drop p) 0 0 0 p)) ∧ Below w.heap.size w w' := by
  generalize hR : mach (s.data.toList.drop p) 0 0 0 p = R
  have HR : Hid (mach (s.data.toList.drop p) 0 0 0 p = R) := hR
  clear hR
  go_enter Try.func15, Try.ntmps15
  go_wp2_with fail
  refine (skipSpace_any s p w.heap.size _ hs hp (by simp) (by simp) (by simp)).mono ?_
  rintro e w' ⟨rfl, hB, q0, q1, qf⟩
  rw [HR.out] at q1
  go_wp2_with fail
  go_ret
  exact ⟨rfl, ((Below.refl _ _).alloc (Nat.le_refl _) _).trans (hB.below (Nat.le_refl _))⟩
end Go.Proofs.Qxb6601015a.SK
