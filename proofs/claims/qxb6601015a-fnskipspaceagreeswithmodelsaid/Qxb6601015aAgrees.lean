/-
  THE WALK of the law FnSkipSpaceAgreesWithModel (4).
-/
import Derived.Test.Qxb6601015aSkip
namespace Go.Proofs.Qxb6601015a.SK
open Go Go.RowKit

set_option maxHeartbeats 400000 in
theorem agrees_any (a0 : ByteArray) (a1 : Int) (w : World) :
    Calls Try.prog 4 #[.string a0, .int .i64 a1] w fun e w' => e = .returned (.bool true) ∧ Below w.heap.size w w' := by
  by_cases hs : a0.size ≤ 65536
  · by_cases hlo : a1 < 0
    · go_enter Try.func4, Try.ntmps4
      go_wp2
      go_ret
      exact ⟨rfl, Below.refl _ _⟩
    by_cases hhi : (a0.size : Int) < a1
    · go_enter Try.func4, Try.ntmps4
      go_wp2
      go_ret
      exact ⟨rfl, Below.refl _ _⟩
    obtain ⟨f, rfl⟩ := Int.eq_ofNat_of_zero_le (Int.not_lt.1 hlo)
    have hf : f ≤ a0.size := by omega
    clear hlo hhi
    go_enter Try.func4, Try.ntmps4
    go_wp2_with (go_at_call 14; go_in)
    refine (zzSkipSpace_any a0 f _ (by omega) hf).mono ?_
    rintro e w' ⟨rfl, hB⟩
    go_wp2_with fail
    refine (skipModel_any a0 f _ (by omega) hf).mono ?_
    rintro e w'' ⟨rfl, rfl⟩
    go_wp2_with fail
    go_ret
    exact ⟨rfl, hB⟩
  · by_cases hs2 : a0.size ≤ 1048576
    · go_enter Try.func4, Try.ntmps4
      go_wp2
      go_ret
      exact ⟨rfl, Below.refl _ _⟩
    · go_enter Try.func4, Try.ntmps4
      go_wp2
      go_ret
      exact ⟨rfl, Below.refl _ _⟩
end Go.Proofs.Qxb6601015a.SK
