/-
  THE BLANK PIECES: the plain law (a blank text moves the stop by its length) and the walk of zzSynBlankPiece (18).
-/
import Derived.Test.Qxb6601015aSmall
namespace Go.Proofs.Qxb6601015a.SK
open Go Go.RowKit

/-- A text that skipSpace passes over whole, whatever follows. -/
def Blanky (xs : List UInt8) : Prop := ∀ (l : List UInt8) (i : Nat), mach (xs ++ l) 0 0 0 i = mach l 0 0 0 (i + xs.length)

theorem Blanky.nil : Blanky [] := fun _ _ => rfl

theorem Blanky.append {xs ys : List UInt8} (hx : Blanky xs) (hy : Blanky ys) : Blanky (xs ++ ys) := by
  intro l i
  rw [List.append_assoc, hx, hy, List.length_append, Nat.add_assoc]

theorem Blanky.one {c : UInt8} (h : blank c = true) : Blanky [c] := fun _ i => way_blank i h

theorem mach1_nl (l : List UInt8) (d : Int) (bs i : Nat) : mach (10 :: l) 1 d bs i = mach l 0 d bs (i + 1) := by
  cases l with
  | nil => simp [mach]
  | cons b l => simp [mach]

theorem blanky0 : Blanky [32] := Blanky.one (by decide)
theorem blanky1 : Blanky [9, 11, 12] := ((Blanky.one (c := 9) (by decide)).append (Blanky.one (c := 11) (by decide))).append (Blanky.one (c := 12) (by decide))
theorem blanky2 : Blanky [13, 10] := (Blanky.one (c := 13) (by decide)).append (Blanky.one (c := 10) (by decide))
theorem blanky3 : Blanky [45, 45, 32, 110, 111, 116, 101, 32, 47, 42, 32, 110, 111, 32, 99, 111, 109, 109, 101, 110, 116, 32, 104, 101, 114, 101, 10] := by
  intro l i
  simp [mach, blank, mach1_nl]
theorem blanky4 : Blanky [47, 42, 32, 97, 32, 47, 42, 32, 98, 32, 42, 47, 32, 99, 32, 42, 47] := by
  intro l i
  simp [mach, blank]
  exact (mach0_any _ _ _ _ _ _).1
theorem blanky5 : Blanky [47, 42, 42, 47] := by
  intro l i
  simp [mach, blank]
  exact (mach0_any _ _ _ _ _ _).1

/-- The law: a blank text set in at p moves the stop by its length. -/
theorem blanky_shift {xs a b : List UInt8} (h : Blanky xs) (p : Nat) (hp : p = a.length) : mach ((a ++ xs ++ b).drop p) 0 0 0 p = mach ((a ++ b).drop p) 0 0 0 p + xs.length := by
  subst hp
  rw [List.append_assoc, List.drop_left, List.drop_left, h]
  have := mach_shift xs.length b 0 0 0 a.length
  rw [← this]
  exact (mach0_any b 0 0 0 (0 + xs.length) (a.length + xs.length)).1

theorem piece_any (z : Int) (w : World) (h0 : 0 ≤ z) (h1 : z ≤ 255) :
    Calls Try.prog 18 #[.int .u8 z] w fun e w' => ∃ P : ByteArray, e = .returned (.string P) ∧ P.size ≤ 27 ∧ Hid (Blanky P.data.toList) ∧ w' = w := by
  go_enter Try.func18, Try.ntmps18
  go_wp2
  all_goals go_ret
  · exact ⟨_, rfl, by decide, blanky0, rfl⟩
  · exact ⟨_, rfl, by decide, blanky1, rfl⟩
  · exact ⟨_, rfl, by decide, blanky2, rfl⟩
  · exact ⟨_, rfl, by decide, blanky3, rfl⟩
  · exact ⟨_, rfl, by decide, blanky4, rfl⟩
  · exact ⟨_, rfl, by decide, blanky5, rfl⟩
end Go.Proofs.Qxb6601015a.SK
