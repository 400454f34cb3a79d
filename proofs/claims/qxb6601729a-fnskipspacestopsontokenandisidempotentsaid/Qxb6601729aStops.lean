/-
  THE WALK of the law FnSkipSpaceStopsOnTokenAndIsIdempotent (6).
-/
import Derived.Test.Qxb6601729aSkip
namespace Go.Proofs.Qxb6601729a.SK
open Go Go.RowKit

theorem mach_at {s : ByteArray} {p : Nat} (hp : p ≤ s.size) : ∃ R, mach (s.data.toList.drop p) false p = R ∧ p ≤ R ∧ R ≤ s.size ∧ (∀ h : R < s.size, tok s[R]) ∧ mach (s.data.toList.drop R) false R = R := by
  obtain ⟨j, h1, h2, h3⟩ := mach_tok (s.data.toList.drop p) false p
  rw [List.length_drop, ← Lib.size_eq] at h2
  have ht : ∀ h : p + j < s.size, tok s[p + j] := fun h => by
    have := h3 (by rw [List.length_drop, ← Lib.size_eq]; omega)
    rw [List.getElem_drop] at this
    exact this
  refine ⟨p + j, h1, by omega, by omega, ht, ?_⟩
  by_cases h : p + j < s.size
  · rw [drop_cons s _ h, way_stop _ (ht h)]
  · rw [List.drop_eq_nil_of_le (by rw [← Lib.size_eq]; omega)]; rfl

set_option maxRecDepth 100000 in
set_option maxHeartbeats 1000000 in
theorem stops_any (a0 : ByteArray) (a1 : Int) (w : World) :
    Calls Try.prog 6 #[.string a0, .int .i64 a1] w fun e w' => e = .returned (.bool true) ∧ Below w.heap.size w w' := by
  by_cases hs : a0.size ≤ 1048576
  · by_cases hlo : a1 < 0
    · go_enter Try.func6, Try.ntmps6
      go_wp2
      go_ret
      exact ⟨rfl, Below.refl _ _⟩
    obtain ⟨p, rfl⟩ := Int.eq_ofNat_of_zero_le (Int.not_lt.1 hlo)
    clear hlo
    by_cases hp : p < a0.size
    · obtain ⟨R, hR, h1, h2, ht, hRR⟩ := mach_at (s := a0) (p := p) (by omega)
      have HR : Hid (mach (a0.data.toList.drop p) false p = R) := hR
      have HRR : Hid (mach (a0.data.toList.drop R) false R = R) := hRR
      clear hR hRR
      have z1 : ¬ (R : Int) < (p : Int) := by omega
      have z2 : ¬ (a0.size : Int) < (R : Int) := by omega
      by_cases h : R < a0.size
      · obtain ⟨c32, c9, c13, c10, c35⟩ := ht h
        have h32 : ((a0[R].toNat : Int) == 32) = false := byte_ne (n := 32) c32
        have h9 : ((a0[R].toNat : Int) == 9) = false := byte_ne (n := 9) c9
        have h13 : ((a0[R].toNat : Int) == 13) = false := byte_ne (n := 13) c13
        have h10 : ((a0[R].toNat : Int) == 10) = false := byte_ne (n := 10) c10
        have h35 : ((a0[R].toNat : Int) == 35) = false := byte_ne (n := 35) c35
        clear c32 c9 c13 c10 c35 ht
        go_enter Try.func6, Try.ntmps6
        go_wp2_with (go_at_call 16; go_in)
        refine (zzSkipSpace_any a0 p _ hs R HR.out).mono ?_
        rintro e w1 ⟨rfl, hB⟩
        go_wp2_with fail
        refine (zzSkipSpace_any a0 R _ hs R HRR.out).mono ?_
        rintro e w2 ⟨rfl, hB2⟩
        go_wp2_with fail
        go_ret
        exact ⟨rfl, hB.trans (hB2.mono hB.size)⟩
      · clear ht
        go_enter Try.func6, Try.ntmps6
        go_wp2_with (go_at_call 16; go_in)
        refine (zzSkipSpace_any a0 p _ hs R HR.out).mono ?_
        rintro e w1 ⟨rfl, hB⟩
        go_wp2_with fail
        refine (zzSkipSpace_any a0 R _ hs R HRR.out).mono ?_
        rintro e w2 ⟨rfl, hB2⟩
        go_wp2_with fail
        go_ret
        exact ⟨rfl, hB.trans (hB2.mono hB.size)⟩
    · have HR : Hid (mach (a0.data.toList.drop p) false p = p) := by
        show mach (a0.data.toList.drop p) false p = p
        rw [List.drop_eq_nil_of_le (by rw [← Lib.size_eq]; omega)]; rfl
      go_enter Try.func6, Try.ntmps6
      go_wp2_with (first
        | (go_at_call 16; go_in)
        | (go_at_call 14; refine (zzSkipSpace_any a0 p _ hs p HR.out).mono ?_; rintro e w1 ⟨rfl, hB⟩))
      go_ret
      exact ⟨rfl, hB⟩
  · go_enter Try.func6, Try.ntmps6
    go_wp2
    go_ret
    exact ⟨rfl, Below.refl _ _⟩
end Go.Proofs.Qxb6601729a.SK
