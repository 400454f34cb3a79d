/-
  THE WALK of decimalOf (9), and its plain law.
-/
import Derived.Test.Qxb6601452aDoorProg
import Derived.Test.Qxb6601452aDoorShelf
import Derived.WalkKit
import Derived.WalkSpells
import Derived.WalkLawsBesides
import Derived.Outline
import Derived.Laws.IdiomStrings
namespace Go.Proofs.Qxb6601452aDoor.BI
open Go Go.RowKit

def cellOf (c : UInt8) : Value := .int .u8 (c.toNat : Int)

/-- The bytes ds lie at the buffer's end, from place k on. -/
def Buf (wr : World) (B k : Nat) (ds : List UInt8) : Prop :=
  (∀ j, j < 20 → ∃ u, wr.cell? ⟨B, j, none⟩ = some u) ∧ (∀ j, j < 20 → wr.frozen? ⟨B, j, none⟩ = false) ∧ ∀ j (h : j < ds.length), wr.cell? ⟨B, k + j, none⟩ = some (cellOf ds[j])

theorem Buf.step {wr : World} {B k : Nat} {ds : List UInt8} (h : Buf wr B (k + 1) ds) (hk : k < 20) (c : UInt8) : Buf (wr.setCell ⟨B, k, none⟩ (cellOf c)) B k (c :: ds) := by
  obtain ⟨h1, h2, h3⟩ := h
  refine ⟨fun j hj => ?_, fun j hj => ?_, fun j hj => ?_⟩
  · by_cases e : j = k
    · subst e
      obtain ⟨u, hu⟩ := h1 j hj
      exact ⟨_, World.cell?_setCell_same _ _ _ hu⟩
    · rw [World.cell?_setCell_other _ _ _ _ (by simp)]
      exact h1 j hj
  · rw [World.frozen?_setCell]; exact h2 j hj
  · cases j with
    | zero =>
      obtain ⟨u, hu⟩ := h1 k hk
      exact World.cell?_setCell_same _ _ _ hu
    | succ j =>
      rw [World.cell?_setCell_other _ _ _ _ (by simp)]
      have := h3 j (by simpa using hj)
      rw [show k + (j + 1) = k + 1 + j from by omega]
      exact this

/-- Bytes that are decimal digits. -/
def Digs (ds : List UInt8) : Prop := ∀ b ∈ ds, 48 ≤ b.toNat ∧ b.toNat ≤ 57

/-- What the digits spell behind m. -/
def spell (m : Nat) (ds : List UInt8) : Lib.NumEnd Nat := Lib.parseUintM (2 ^ 64 - 1) m ds

theorem pow_two {m k : Nat} (h : 10 ≤ m) (hk : m < 10 ^ k) : 2 ≤ k := by
  match k, hk with
  | 0, hk => simp at hk; omega
  | 1, hk => simp at hk; omega
  | k + 2, _ => omega

theorem pow_step {m k : Nat} (hk : m < 10 ^ (k + 1)) : m / 10 < 10 ^ k := by
  rw [Nat.pow_succ] at hk
  omega

def digit (d : Nat) : UInt8 := UInt8.ofNat (48 + d)
theorem digit_toNat {d : Nat} (h : d ≤ 9) : (digit d).toNat = 48 + d := by
  unfold digit
  rw [UInt8.toNat_ofNat']
  omega

theorem spell_step {m N : Nat} {ds : List UInt8} (hm : m ≤ 18446744073709551615) (h : spell m ds = .ok N) : spell (m / 10) (digit (m % 10) :: ds) = .ok N := by
  unfold spell at *
  rw [Lib.parseUintM, digit_toNat (by omega), if_pos (by omega), if_neg (by omega), if_neg (by omega)]
  rw [show m / 10 * 10 + (48 + m % 10 - 48) = m from by omega]
  exact h

theorem spell_last {m N : Nat} {ds : List UInt8} (hm : m ≤ 9) (h : spell m ds = .ok N) : spell 0 (digit m :: ds) = .ok N := by
  unfold spell at *
  rw [Lib.parseUintM, digit_toNat hm, if_pos (by omega), if_neg (by omega), if_neg (by omega)]
  rw [show 0 * 10 + (48 + m - 48) = m from by omega]
  exact h

theorem Digs.cons {d : Nat} {ds : List UInt8} (h : d ≤ 9) (hd : Digs ds) : Digs (digit d :: ds) := by
  intro b hb
  rcases List.mem_cons.1 hb with rfl | hb
  · rw [digit_toNat h]; omega
  · exact hd b hb

theorem cell_digit {d : Nat} {v : Int} (h : d ≤ 9) (hv : v = 48 + d) : Value.int .u8 v = cellOf (digit d) := by
  rw [cellOf, digit_toNat h, hv]; rfl

theorem arr27 : Tryd.prog.arrayLen 27 = 20 := by kernel_rfl
theorem el27 : Tryd.prog.elem 27 = 5 := by kernel_rfl

/-- 'buf[i:]' of the array in block B. -/
theorem slice27 (k B : Nat) (hk : k < 20) (w : World) : Sem.run Tryd.prog (Instr.sliceAt 27 (.pointer (some ⟨B, 0, none⟩)) (some (.int .i64 (k : Int))) none none) w = .ok (.slice (some ⟨B, k, none⟩) (20 - k) (20 - k)) w := by
  rw [run_sliceAt_array_l w 27 ⟨B, 0, none⟩ (by rw [arr27, el27]; exact Tryd.underlying27) .i64 (k : Int) (by omega) (by rw [arr27]; omega), arr27, el27, Tryd.sizeOf5]
  simp only [Result.andThen, slicedAt, Int.toNat_natCast]
  rw [if_neg (by omega)]
  cases k <;> simp [Addr.add]

/-- 'string(buf[i:])'. -/
theorem conv_buf {wr : World} {B k : Nat} {ds : List UInt8} (h : Buf wr B k ds) (hl : ds.length = 20 - k) :
    Sem.run Tryd.prog (convert 28 9 (.slice (some ⟨B, k, none⟩) (20 - k) (20 - k))) wr = .ok (.string ⟨ds.toArray⟩) wr := by
  rw [← hl]
  refine run_convert_bytes_back wr 28 9 5 ⟨B, k, none⟩ ds.length ds Tryd.underlying28 Tryd.underlying5 Tryd.underlying9 (fun j hj => ?_)
  have := h.2.2 j hj
  cases j <;> simpa [Addr.add, cellOf] using this

set_option maxRecDepth 100000 in
set_option maxHeartbeats 1000000 in
theorem decimalOf_any (n : Nat) (w : World) (hn : n ≤ 18446744073709551615) :
    Calls Tryd.prog 9 #[.int .u64 (n : Int)] w fun e w' => ∃ S : ByteArray, e = .returned (.string S) ∧ spell 0 S.data.toList = .ok n ∧ Digs S.data.toList ∧ S.size ≤ 20 ∧ 0 < S.size ∧ Below w.heap.size w w' := by
  go_enter Tryd.func9, Tryd.ntmps9
  go_wp2
  go_loopw [0, 4] (fun nv iv wr => ∃ (m k : Nat) (ds : List UInt8), nv = .int .u64 m ∧ iv = .int .i64 (k + 1 : Nat) ∧ k + 1 ≤ 20 ∧ m ≤ 18446744073709551615 ∧ Hid (m < 10 ^ (k + 1)) ∧ Hid (ds.length = 20 - (k + 1)) ∧ Hid (spell m ds = .ok n) ∧ Hid (Digs ds) ∧ Hid (Buf wr w.heap.size (k + 1) ds) ∧ Below w.heap.size w wr) (fun nv _ _ => (intOf nv).toNat)
  case atStart =>
    refine ⟨n, 19, [], rfl, rfl, by omega, hn, ?_, rfl, rfl, (fun b hb => by cases hb), ⟨fun j hj => ?_, fun j hj => ?_, fun j hj => by cases hj⟩, (Below.refl _ _).alloc (Nat.le_refl _) _⟩
    · show n < 10 ^ 20
      omega
    · rw [World.cell?_alloc_at _ _ _ _ rfl]
      exact ⟨_, Array.getElem?_eq_getElem (by simpa using hj)⟩
    · exact World.frozen?_alloc_at _ _ _ _ rfl
  case round =>
    obtain ⟨m, k, ds, rfl, rfl, hk, hm, hP, hL, hS, hD, hU, hB⟩ := hrel
    obtain ⟨u, hu⟩ := hU.out.1 k (by omega)
    have hf := hU.out.2.1 k (by omega)
    by_cases h10 : 10 ≤ m
    · have hk2 := pow_two h10 hP.out
      obtain ⟨k', rfl⟩ : ∃ k', k = k' + 1 := ⟨k - 1, by omega⟩
      have hP' := pow_step hP.out
      have HP' : Hid (m / 10 < 10 ^ (k' + 1)) := hP'
      have HS' : Hid (spell (m / 10) (digit (m % 10) :: ds) = .ok n) := spell_step hm hS.out
      have HD' : Hid (Digs (digit (m % 10) :: ds)) := hD.out.cons (by omega)
      have HU' := hU.out.step (by omega) (digit (m % 10))
      have HE : Hid (Value.int .u8 (48 + (m : Int) % 10) = cellOf (digit (m % 10))) := cell_digit (by omega) (by omega)
      have HL' : Hid ((digit (m % 10) :: ds).length = 20 - (k' + 1)) := by
        show (digit (m % 10) :: ds).length = 20 - (k' + 1)
        have := hL.out
        simp only [List.length_cons]; omega
      have HU2 : Hid (Buf (wr.setCell ⟨w.heap.size, k' + 1, none⟩ (cellOf (digit (m % 10)))) w.heap.size (k' + 1) (digit (m % 10) :: ds)) := HU'
      clear HU' hP'
      go_wp2
      go_roundw
      case rel =>
        refine ⟨m / 10, k', digit (m % 10) :: ds, by go_num, by go_num, by omega, by omega, HP', HL', HS', HD', ?_, hB.setCell (Nat.le_refl _) _⟩
        rw [HE.out]
        exact HU2
      case measure => simp [intOf]; omega
    · have HS' : Hid (spell 0 (digit m :: ds) = .ok n) := spell_last (by omega) hS.out
      have HD' : Hid (Digs (digit m :: ds)) := hD.out.cons (by omega)
      have HU' := hU.out.step (by omega) (digit m)
      have HE : Hid (Value.int .u8 (48 + (m : Int)) = cellOf (digit m)) := cell_digit (by omega) (by omega)
      have hl' : (digit m :: ds).length = 20 - k := by
        have := hL.out
        simp only [List.length_cons]; omega
      have hsl := fun wx => slice27 k w.heap.size (by omega) wx
      have hcv := conv_buf HU' hl'
      rw [← HE.out] at hcv
      have HL' : Hid ((digit m :: ds).length = 20 - k) := hl'
      clear hl' HU'
      go_wp2
      go_ret
      refine ⟨_, rfl, HS'.out, HD'.out, ?_, ?_, hB.setCell (Nat.le_refl _) _⟩
      · show (digit m :: ds).length ≤ 20
        rw [HL'.out]; omega
      · show 0 < (digit m :: ds).length
        simp
end Go.Proofs.Qxb6601452aDoor.BI
