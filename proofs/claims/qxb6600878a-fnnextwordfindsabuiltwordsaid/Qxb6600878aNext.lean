/-
  THE WALK of header.nextWord (function 15) and of its shim (8).
-/
import Derived.Test.Qxb6600878aProg
import Derived.Test.Qxb6600878aShelf
import Derived.Test.Qxb6600878aPlain
import Derived.WalkKit
import Derived.WalkSpells
import Derived.Outline
namespace Go.Proofs.Qxb6600878a.NW
open Go Go.RowKit

theorem ret3 {a b : Int} {c : Bool} {r : Int × Int × Bool} (h : r = (a, b, c)) :
    Ending.returned (.tuple #[.int .i64 a, .int .i64 b, .bool c]) = .returned (.tuple #[.int .i64 r.1, .int .i64 r.2.1, .bool r.2.2]) := by
  subst h; rfl

theorem getElem_some (s : ByteArray) (i : Nat) (h : i < s.size) : s.data.toList[i]? = some s[i] := Lib.data_getElem? s i h

set_option maxHeartbeats 400000 in
theorem nextWord_any (s : ByteArray) (f : Nat) (m : Int) (w : World) (hs : s.size ≤ 2097152) (hf : f ≤ s.size) (hm : w.cell? ⟨0, 0, none⟩ = some (.int .i64 m)) :
    Calls Try.prog 15 #[.string s, .int .i64 f] w fun e w' => e = .returned (.tuple #[.int .i64 (nw (s.data.toList.drop f) f).1, .int .i64 (nw (s.data.toList.drop f) f).2.1, .bool (nw (s.data.toList.drop f) f).2.2]) ∧ w' = w := by
  have hsl : s.size = s.data.toList.length := Lib.size_eq s
  have HSL : Hid (s.size = s.data.toList.length) := hsl
  clear hsl
  go_enter Try.func15, Try.ntmps15
  go_wp2_with fail
  refine (Try.strings_Index _ _ m _ (by simp; omega) hm).mono ?_
  rintro e w' ⟨rfl, rfl⟩
  rw [Lib.extract_to_end, show (ByteArray.mk #[61, 63]).data.toList = [61, 63] from rfl]
  by_cases h1 : Lib.index (s.data.toList.drop f) [61, 63] < 0
  · have hv := nw_no1 h1
    have HV : Hid (nw (s.data.toList.drop f) f = (0, 0, false)) := hv
    clear hv
    go_wp2_with fail
    go_ret3
    exact ⟨ret3 HV.out, rfl⟩
  obtain ⟨a, ha⟩ := Int.eq_ofNat_of_zero_le (Int.not_lt.1 h1)
  have hroom := index2_room _ _ _ a ha
  rw [List.length_drop, ← HSL.out] at hroom
  rw [ha]
  have HA : Hid (Lib.index (s.data.toList.drop f) [61, 63] = a) := ha
  clear ha h1
  go_wp2_with fail
  refine (Try.strings_IndexByte _ _ _).mono ?_
  rintro e w' ⟨rfl, rfl⟩
  rw [Lib.extract_to_end, show (63 : Int).toNat.toUInt8 = 63 from rfl]
  by_cases h2 : Lib.indexByte (s.data.toList.drop (a + f + 2)) 63 < 0
  · have HV : Hid (nw (s.data.toList.drop f) f = (0, 0, false)) := nw_no2 HA.out h2
    go_wp2_with fail
    go_ret3
    exact ⟨ret3 HV.out, rfl⟩
  obtain ⟨b, hb⟩ := Int.eq_ofNat_of_zero_le (Int.not_lt.1 h2)
  have hroom2 := indexByte_room _ _ b hb
  rw [List.length_drop, ← HSL.out] at hroom2
  rw [hb]
  have HB : Hid (Lib.indexByte (s.data.toList.drop (a + f + 2)) 63 = b) := hb
  clear hb h2
  have HF : Hid (nw (s.data.toList.drop f) f = fin (s.data.toList.drop (a + f + 2 + (b + 1))) ((a : Int) + f) ((a : Int) + f + 2 + (b + 1))) := nw_fin HA.out HB.out
  by_cases h3 : s.size < a + f + 2 + (b + 1) + 4
  · have HV : Hid (nw (s.data.toList.drop f) f = (0, 0, false)) := by
      show nw (s.data.toList.drop f) f = (0, 0, false)
      rw [HF.out]; exact fin_short (by rw [← HSL.out]; exact h3)
    go_wp2_with fail
    go_ret3
    exact ⟨ret3 HV.out, rfl⟩
  by_cases h4 : s[a + f + 2 + (b + 1) + 1]'(by omega) = 63
  · have h5 : (((s[a + f + 2 + (b + 1) + 1]'(by omega)).toNat : Int) != 63) = false := by rw [h4]; rfl
    have HQ : Hid (s.data.toList[a + f + 2 + (b + 1) + 1]? = some 63) := by
      show s.data.toList[a + f + 2 + (b + 1) + 1]? = some 63
      rw [getElem_some s _ (by omega), h4]
    clear h4
    go_wp2_with fail
    refine (Try.strings_Index _ _ m _ (by simp; omega) hm).mono ?_
    rintro e w' ⟨rfl, rfl⟩
    rw [Lib.extract_to_end, show (ByteArray.mk #[63, 61]).data.toList = [63, 61] from rfl]
    by_cases h6 : Lib.index (s.data.toList.drop (a + f + 2 + (b + 1) + 2)) [63, 61] < 0
    · have HV : Hid (nw (s.data.toList.drop f) f = (0, 0, false)) := by
        show nw (s.data.toList.drop f) f = (0, 0, false)
        rw [HF.out]; exact fin_no h6
      go_wp2_with fail
      go_ret3
      exact ⟨ret3 HV.out, rfl⟩
    obtain ⟨j, hj⟩ := Int.eq_ofNat_of_zero_le (Int.not_lt.1 h6)
    have hroom3 := index2_room _ _ _ j hj
    rw [List.length_drop, ← HSL.out] at hroom3
    rw [hj]
    have HV : Hid (nw (s.data.toList.drop f) f = ((a : Int) + f, (a : Int) + f + 2 + (b + 1) + 2 + j + 2, true)) := by
      show nw (s.data.toList.drop f) f = ((a : Int) + f, (a : Int) + f + 2 + (b + 1) + 2 + j + 2, true)
      rw [HF.out]; exact fin_yes (by rw [← HSL.out]; omega) HQ.out hj
    clear hj h6
    go_wp2_with fail
    go_ret3
    exact ⟨ret3 HV.out, rfl⟩
  · have h5 : (((s[a + f + 2 + (b + 1) + 1]'(by omega)).toNat : Int) != 63) = true := by
      rw [bne_iff_ne]; intro e; exact h4 (UInt8.toNat_inj.1 (by show _ = 63; omega))
    have HV : Hid (nw (s.data.toList.drop f) f = (0, 0, false)) := by
      show nw (s.data.toList.drop f) f = (0, 0, false)
      rw [HF.out]
      refine fin_noq (by rw [← HSL.out]; omega) ?_
      rw [getElem_some s _ (by omega)]
      intro e; exact h4 (Option.some.inj e)
    clear h4
    go_wp2_with fail
    go_ret3
    exact ⟨ret3 HV.out, rfl⟩

theorem zzNextWord_any (s : ByteArray) (f : Nat) (m : Int) (w : World) (hs : s.size ≤ 2097152) (hf : f ≤ s.size) (hm : w.cell? ⟨0, 0, none⟩ = some (.int .i64 m)) :
    Calls Try.prog 8 #[.string s, .int .i64 f] w fun e w' => e = .returned (.tuple #[.int .i64 (nw (s.data.toList.drop f) f).1, .int .i64 (nw (s.data.toList.drop f) f).2.1, .bool (nw (s.data.toList.drop f) f).2.2]) ∧ w' = w := by
  go_enter Try.func8, Try.ntmps8
  go_wp2_with fail
  refine (nextWord_any s f m _ hs hf hm).mono ?_
  rintro e w' ⟨rfl, rfl⟩
  generalize hr : nw (s.data.toList.drop f) f = r
  have HR : Hid (nw (s.data.toList.drop f) f = (r.1, r.2.1, r.2.2)) := hr
  clear hr
  go_wp2_with fail
  go_ret3
  exact ⟨ret3 HR.out, rfl⟩
end Go.Proofs.Qxb6600878a.NW
