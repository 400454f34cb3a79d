/-
  THE WALK of the law FnNextWordFindsABuiltWord (function 5).
-/
import Derived.Test.Qxb6600878aProg
import Derived.Test.Qxb6600878aNext
import Derived.Test.Qxb6600878aPair
import Derived.WalkKit
import Derived.WalkSpells
import Derived.WalkLawsBesides
import Derived.Laws.BytesArg
namespace Go.Proofs.Qxb6600878a.NW
open Go Go.RowKit

/-- 'string([]byte{enc})': one new block, one byte. -/
theorem conv_one (n : Int) (w : World) : Sem.run Try.prog (convert 28 9 (.slice (some ⟨w.heap.size, 0, none⟩) 1 1)) (w.alloc (.cells #[.int .u8 n] 5)) = .ok (.string (strOfNums [n])) (w.alloc (.cells #[.int .u8 n] 5)) := by
  refine run_convert_bytes_arg _ 28 5 Try.underlying28 Try.underlying5 w.heap.size 0 1 1 [n] rfl (fun i hi => ?_) 9 Try.underlying9
  obtain rfl : i = 0 := by omega
  simp

theorem enc_one (n : Int) : ∃ (E : ByteArray) (e : UInt8), E.size ≤ 1 ∧ Hid (E.data.toList = [e]) ∧ ∀ w : World, Sem.run Try.prog (convert 28 9 (.slice (some ⟨w.heap.size, 0, none⟩) 1 1)) (w.alloc (.cells #[.int .u8 n] 5)) = .ok (.string E) (w.alloc (.cells #[.int .u8 n] 5)) :=
  ⟨strOfNums [n], UInt8.ofNat n.toNat, Nat.le_refl _, rfl, conv_one n⟩

/-- What the law builds, as a list. -/
theorem built_list (a0 a1 a3 a4 E : ByteArray) (e : UInt8) (hE : E.data.toList = [e]) :
    (a0 ++ (⟨#[61, 63]⟩ : ByteArray) ++ a1 ++ (⟨#[63]⟩ : ByteArray) ++ E ++ (⟨#[63]⟩ : ByteArray) ++ a3 ++ (⟨#[63, 61]⟩ : ByteArray) ++ a4).data.toList
      = a0.data.toList ++ 61 :: 63 :: (a1.data.toList ++ 63 :: e :: 63 :: (a3.data.toList ++ 63 :: 61 :: a4.data.toList)) := by
  simp [ByteArray.data_append, hE]

set_option maxHeartbeats 1000000 in
theorem built_any (a0 : ByteArray) (a1 : ByteArray) (a2 : Int) (a3 : ByteArray) (a4 : ByteArray) (a5 : Int) (w0 : a0.size ≤ maxLen) (w1 : a1.size ≤ maxLen) (w3 : a3.size ≤ maxLen) (w4 : a4.size ≤ maxLen) (m : Int) (w : World) (hm : w.cell? ⟨0, 0, none⟩ = some (.int .i64 m)) :
    Calls Try.prog 5 #[.string a0, .string a1, .int .u8 a2, .string a3, .string a4, .int .i64 a5] w fun e w' => e = .returned (.bool true) ∧ Grown w w' := by
  unfold maxLen at w0 w1 w3 w4
  have out : (1048576 < a0.size ∨ 1048576 < a0.size + a1.size ∨ 1048576 < a0.size + a1.size + a3.size ∨ 1048576 < a0.size + a1.size + a3.size + a4.size ∨ a5 < 0 ∨ (a0.size : Int) < a5) ∨ (a0.size + a1.size + a3.size + a4.size ≤ 1048576 ∧ 0 ≤ a5 ∧ a5 ≤ a0.size) := by omega
  rcases out with out | ⟨hsz, hlo, hhi⟩
  · go_enter Try.func5, Try.ntmps5
    go_wp2
    all_goals go_ret
    all_goals exact ⟨rfl, Grown.refl _⟩
  obtain ⟨f, rfl⟩ := Int.eq_ofNat_of_zero_le hlo
  have hf : f ≤ a0.size := by omega
  clear hhi hlo
  go_enter Try.func5, Try.ntmps5
  go_wp2_with (go_at_call 11; go_in)
  refine (hasPair_eq a0 _ (by omega)).mono ?_
  rintro e w' ⟨rfl, rfl⟩
  cases hp : hasP a0.data.toList 61 63
  case true =>
    go_wp2_with fail
    go_ret
    exact ⟨rfl, Grown.refl _⟩
  have HP : Hid (hasP a0.data.toList 61 63 = false) := hp
  clear hp
  go_wp2_with fail
  refine (hasPair_qe a3 _ (by omega)).mono ?_
  rintro e w' ⟨rfl, rfl⟩
  cases ht : hasP a3.data.toList 63 61
  case true =>
    go_wp2_with fail
    go_ret
    exact ⟨rfl, Grown.refl _⟩
  have HT : Hid (hasP a3.data.toList 63 61 = false) := ht
  clear ht
  go_wp2
  go_loop [13] (fun i => ∃ k : Nat, k ≤ a1.size ∧ i = .int .i64 k ∧ Hid (Lib.indexByte (a1.data.toList.drop k) 63 = -1 → Lib.indexByte a1.data.toList 63 = -1)) (fun i => a1.size - (intOf i).toNat)
  case atStart => exact ⟨0, by omega, rfl, fun h => h⟩
  case round =>
    obtain ⟨k, hk, rfl, H⟩ := hrel
    by_cases hlt : k < a1.size
    · by_cases c63 : a1[k] = 63
      · have t63 : ((a1[k].toNat : Int) == 63) = true := byte_eq c63
        clear c63
        go_wp2
        go_ret
        exact ⟨rfl, Grown.refl _⟩
      · have t63 : ((a1[k].toNat : Int) == 63) = false := byte_ne c63
        have HN : Hid (Lib.indexByte (a1.data.toList.drop (k + 1)) 63 = -1 → Lib.indexByte a1.data.toList 63 = -1) := by
          show Lib.indexByte (a1.data.toList.drop (k + 1)) 63 = -1 → Lib.indexByte a1.data.toList 63 = -1
          intro h
          apply H.out
          rw [drop_cons a1 k hlt, Lib.indexByte, if_neg (by simpa using c63), h]; rfl
        clear c63
        go_wp2
        go_round
        case rel => exact ⟨k + 1, by omega, by go_num, HN⟩
        case measure => simp [intOf]; omega
    · have HC : Hid (Lib.indexByte a1.data.toList 63 = -1) := by
        show Lib.indexByte a1.data.toList 63 = -1
        apply H.out
        rw [List.drop_eq_nil_of_le (by rw [← Lib.size_eq]; omega)]; rfl
      obtain ⟨E, e, hE, HE, kc⟩ := enc_one a2
      go_wp2_with fail
      have hBl := built_list a0 a1 a3 a4 E e HE.out
      have hBz : (a0 ++ (⟨#[61, 63]⟩ : ByteArray) ++ a1 ++ (⟨#[63]⟩ : ByteArray) ++ E ++ (⟨#[63]⟩ : ByteArray) ++ a3 ++ (⟨#[63, 61]⟩ : ByteArray) ++ a4).size ≤ 2097152 := by
        rw [Lib.size_eq, hBl]
        simp only [List.length_append, List.length_cons, ← Lib.size_eq]
        omega
      have hBf : f ≤ (a0 ++ (⟨#[61, 63]⟩ : ByteArray) ++ a1 ++ (⟨#[63]⟩ : ByteArray) ++ E ++ (⟨#[63]⟩ : ByteArray) ++ a3 ++ (⟨#[63, 61]⟩ : ByteArray) ++ a4).size := by
        rw [Lib.size_eq, hBl]
        simp only [List.length_append, List.length_cons, ← Lib.size_eq]
        omega
      generalize (a0 ++ (⟨#[61, 63]⟩ : ByteArray) ++ a1 ++ (⟨#[63]⟩ : ByteArray) ++ E ++ (⟨#[63]⟩ : ByteArray) ++ a3 ++ (⟨#[63, 61]⟩ : ByteArray) ++ a4) = B at *
      have HV : Hid (nw (B.data.toList.drop f) f = ((a0.size : Int), (a0.size : Int) + 2 + a1.size + 3 + a3.size + 2, true)) := by
        show nw (B.data.toList.drop f) f = ((a0.size : Int), (a0.size : Int) + 2 + a1.size + 3 + a3.size + 2, true)
        rw [hBl, nw_built _ _ _ _ _ _ (by rw [← Lib.size_eq]; exact hf) HP.out HT.out HC.out]
        simp only [← Lib.size_eq]
      clear hBl
      refine (zzNextWord_any B f m _ hBz hBf (by exact cell_later ((Below.refl _ _).alloc (Nat.le_refl _) _) hm)).mono ?_
      rintro e w'' ⟨rfl, rfl⟩
      rw [HV.out]
      go_wp2_with fail
      go_ret
      exact ⟨rfl, Grown.alloc (Grown.refl _) _ _⟩
end Go.Proofs.Qxb6600878a.NW
