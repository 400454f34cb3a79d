/-
  THE WALKS of bigInteger (10), ZZBigInteger (7), the law (4), and the plain laws under them.
-/
import Derived.Test.Qxb6601452aDoorDec
namespace Go.Proofs.Qxb6601452aDoor.BI
open Go Go.RowKit

/-- A text that bigInteger reads as n: digits, a '-' ahead or not. -/
def Spelt (l : List UInt8) (n : Nat) : Prop := ∃ ds : List UInt8, ds ≠ [] ∧ Digs ds ∧ spell 0 ds = .ok n ∧ (l = ds ∨ l = 45 :: ds)

theorem Digs.noAny {ds : List UInt8} (h : Digs ds) : Lib.indexAny ds [46, 101, 69] = -1 := by
  induction ds with
  | nil => rfl
  | cons b l ih =>
    have hb := h b (by simp)
    have hl := ih (fun c hc => h c (by simp [hc]))
    have hc : [46, 101, 69].contains b = false := by
      simp only [List.contains_cons, List.contains_nil, Bool.or_false, Bool.or_eq_false_iff, beq_eq_false_iff_ne]
      refine ⟨?_, ?_, ?_⟩ <;> (intro e; subst e; revert hb; decide)
    rw [Lib.indexAny, hc, hl]; rfl

theorem Spelt.noAny {l : List UInt8} {n : Nat} (h : Spelt l n) : Lib.containsAny l [46, 101, 69] = false := by
  obtain ⟨ds, _, hd, _, rfl | rfl⟩ := h
  · rw [Lib.containsAny, hd.noAny]; rfl
  · rw [Lib.containsAny, Lib.indexAny, hd.noAny]; rfl

theorem Spelt.ascii {l : List UInt8} {n : Nat} (h : Spelt l n) (j : Nat) (b : UInt8) (hb : l[j]? = some b) : b.toNat < 128 := by
  obtain ⟨ds, _, hd, _, rfl | rfl⟩ := h
  · have := hd b (List.mem_of_getElem? hb); omega
  · rcases List.mem_cons.1 (List.mem_of_getElem? hb) with rfl | hm
    · decide
    · have := hd b hm; omega

theorem Spelt.parse {l : List UInt8} {n : Nat} (h : Spelt l n) : Lib.parseUintB 64 (Lib.trimPrefix l [45]) = .ok n := by
  obtain ⟨ds, hne, hd, hs, rfl | rfl⟩ := h
  · have : Lib.hasPrefix l [45] = false := by
      match l, hne with
      | b :: r, _ =>
        have hb := hd b (by simp)
        have : (45 == b) = false := by
          rw [beq_eq_false_iff_ne]; intro e; subst e; revert hb; decide
        simp [Lib.hasPrefix, List.isPrefixOf, this]
    rw [Lib.trimPrefix, this, if_neg (by decide), Lib.parseUintB, if_neg hne]
    exact hs
  · have : Lib.hasPrefix (45 :: ds) [45] = true := by simp [Lib.hasPrefix, List.isPrefixOf]
    rw [Lib.trimPrefix, this, if_pos rfl, Lib.parseUintB]
    rw [if_neg (by simpa using hne)]
    exact hs

theorem trim_le (l : List UInt8) : (Lib.trimPrefix l [45]).length ≤ l.length := by
  unfold Lib.trimPrefix
  split
  · simp
  · exact Nat.le_refl _

theorem below_bytes (w : World) (s : ByteArray) : Below w.heap.size w (Lib.bytesWorld w 5 s) :=
  ⟨rfl, rfl, rfl, by rw [Lib.bytesWorld_size]; omega, fun j hj => Lib.bytesWorld_at_old w 5 s j hj⟩

/-- strings.ContainsAny(text, ".eE") at such a text. -/
theorem containsAny_no (s : ByteArray) (n : Nat) (w : World) (h : Spelt s.data.toList n) (hs : s.size < 4294967281) :
    Calls Tryd.prog 11 #[.string s, .string { data := #[46, 101, 69] }] w fun e w' => e = .returned (.bool false) ∧ Below w.heap.size w w' := by
  refine (Tryd.strings_ContainsAny_laid s { data := #[46, 101, 69] } w hs (by decide) h.ascii ?_).mono ?_
  · intro j b hb
    have : b ∈ ([46, 101, 69] : List UInt8) := List.mem_of_getElem? hb
    simp at this
    rcases this with rfl | rfl | rfl <;> decide
  · rintro e w' ⟨rfl, hw⟩
    have := h.noAny
    exact ⟨by rw [show ({ data := #[46, 101, 69] } : ByteArray).data.toList = [46, 101, 69] from rfl, this], hw⟩

def trimmed (s : ByteArray) : ByteArray := ⟨(Lib.trimPrefix s.data.toList [45]).toArray⟩

theorem trimPrefix_at (s : ByteArray) (w : World) :
    Calls Tryd.prog 13 #[.string s, .string { data := #[45] }] w fun e w' => e = .returned (.string (trimmed s)) ∧ w' = w :=
  Tryd.strings_TrimPrefix s { data := #[45] } w

theorem parse_at (s : ByteArray) (n : Nat) (w : World) (h : Spelt s.data.toList n) (hs : s.size < 4294967281) :
    Calls Tryd.prog 12 #[.string (trimmed s), .int .i64 10, .int .i64 64] w fun e w' => e = .returned (.tuple #[.int .u64 n, .nilIface]) ∧ Below w.heap.size w w' := by
  refine (Tryd.strconv_ParseUint_10_at64_ok (trimmed s) ?_ n h.parse w).mono ?_
  · have h1 : (trimmed s).size = (Lib.trimPrefix s.data.toList [45]).length := by rw [Lib.size_eq]; rfl
    have h2 := trim_le s.data.toList
    have h3 := Lib.size_eq s
    omega
  · rintro e w' ⟨rfl, rfl | rfl⟩
    · exact ⟨rfl, Below.refl _ _⟩
    · exact ⟨rfl, below_bytes w _⟩

set_option maxRecDepth 100000 in
set_option maxHeartbeats 1000000 in
theorem bigInteger_at (s : ByteArray) (n : Nat) (w : World) (h : Spelt s.data.toList n) (hs : s.size < 4294967281) (b : Bool) (hb : decide ((9007199254740992 : Int) < n) = b) :
    Calls Tryd.prog 10 #[.string s] w fun e w' => e = .returned (.bool b) ∧ Below w.heap.size w w' := by
  have H : Hid (Spelt s.data.toList n) := h
  have HB : Hid (decide ((9007199254740992 : Int) < n) = b) := hb
  clear h hb
  go_enter Tryd.func10, Tryd.ntmps10
  go_wp2_with (first
    | (go_at_call 11; refine (containsAny_no s n _ H.out hs).mono ?_; rintro e w1 ⟨rfl, hw1⟩)
    | (go_at_call 13; refine (trimPrefix_at s _).mono ?_; rintro e w2 ⟨rfl, rfl⟩)
    | (go_at_call 12; refine (parse_at s n _ H.out hs).mono ?_; rintro e w3 ⟨rfl, hw3⟩))
  go_ret
  refine ⟨?_, hw1.trans (hw3.mono hw1.size)⟩
  rw [← HB.out]
  rfl

theorem zz_at (s : ByteArray) (n : Nat) (w : World) (h : Spelt s.data.toList n) (hs : s.size < 4294967281) (b : Bool) (hb : decide ((9007199254740992 : Int) < n) = b) :
    Calls Tryd.prog 7 #[.string s] w fun e w' => e = .returned (.bool b) ∧ Below w.heap.size w w' := by
  go_enter Tryd.func7, Tryd.ntmps7
  go_wp2_with (go_at_call 10; refine (bigInteger_at s n _ h hs b hb).mono ?_; rintro e w1 ⟨rfl, hw1⟩)
  go_ret
  exact ⟨rfl, hw1⟩

theorem dashed_list (S : ByteArray) : (({ data := #[45] } : ByteArray) ++ S).data.toList = 45 :: S.data.toList := by
  simp

theorem Spelt.plain {S : ByteArray} {n : Nat} (h : spell 0 S.data.toList = .ok n) (hd : Digs S.data.toList) (h0 : 0 < S.size) : Spelt S.data.toList n :=
  ⟨_, (fun e => by rw [Lib.size_eq, e] at h0; cases h0), hd, h, .inl rfl⟩
theorem Spelt.dashed {S : ByteArray} {n : Nat} (h : spell 0 S.data.toList = .ok n) (hd : Digs S.data.toList) (h0 : 0 < S.size) : Spelt (({ data := #[45] } : ByteArray) ++ S).data.toList n :=
  ⟨_, (fun e => by rw [Lib.size_eq, e] at h0; cases h0), hd, h, .inr (dashed_list S)⟩
theorem dashed_size (S : ByteArray) : (({ data := #[45] } : ByteArray) ++ S).size = S.size + 1 := by
  rw [ByteArray.size_append]; show 1 + S.size = _; omega

set_option maxRecDepth 100000 in
set_option maxHeartbeats 1000000 in
theorem law_at (n : Nat) (neg : Bool) (w : World) (hn : n ≤ 18446744073709551615) (b : Bool) (hb : decide ((9007199254740992 : Int) < n) = b) :
    Calls Tryd.prog 4 #[.int .u64 (n : Int), .bool neg] w fun e w' => e = .returned (.bool true) ∧ Below w.heap.size w w' := by
  have HB : Hid (decide ((9007199254740992 : Int) < n) = b) := hb
  cases neg
  · go_enter Tryd.func4, Tryd.ntmps4
    go_wp2_with (first
      | (go_at_call 9; refine (decimalOf_any n _ hn).mono ?_; rintro e w1 ⟨S, rfl, hS, hD, h20, h0, hw1⟩)
      | (go_at_call 7; refine (zz_at S n _ (Spelt.plain hS hD h0) (by omega) b HB.out).mono ?_; rintro e w2 ⟨rfl, hw2⟩))
    go_ret
    exact ⟨rfl, hw1.trans (hw2.mono hw1.size)⟩
  · go_enter Tryd.func4, Tryd.ntmps4
    go_wp2_with (first
      | (go_at_call 9; refine (decimalOf_any n _ hn).mono ?_; rintro e w1 ⟨S, rfl, hS, hD, h20, h0, hw1⟩)
      | (go_at_call 7; refine (zz_at _ n _ (Spelt.dashed hS hD h0) (by rw [dashed_size]; omega) b HB.out).mono ?_; rintro e w2 ⟨rfl, hw2⟩))
    go_ret
    exact ⟨rfl, hw1.trans (hw2.mono hw1.size)⟩

end Go.Proofs.Qxb6601452aDoor.BI
