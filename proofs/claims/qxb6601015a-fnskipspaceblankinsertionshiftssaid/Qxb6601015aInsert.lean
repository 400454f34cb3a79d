/-
  THE WALK of the law FnSkipSpaceBlankInsertionShifts (5).
-/
import Derived.Test.Qxb6601015aSkip
import Derived.Test.Qxb6601015aPieces
import Derived.OwnWalk
import Derived.OpenShut
import Derived.Laws.BytesArg
import Derived.Laws.IdiomStrings
namespace Go.Proofs.Qxb6601015a.SK
open Go Go.RowKit

theorem info5 : (Try.prog.info? 5).map (fun i => (i.zero, i.size, i.bytes)) = some (some (.int .u8 0), 1, 1) := by kernel_rfl

/-- Cells that hold bytes. -/
def BytesIn (xs : List Value) : Prop := ∀ u ∈ xs, ∃ z : Int, u = .int .u8 z ∧ 0 ≤ z ∧ z ≤ 255

theorem BytesIn.set {xs : List Value} (h : BytesIn xs) (j : Nat) (z : Int) (h0 : 0 ≤ z) (h1 : z ≤ 255) : BytesIn (xs.set j (.int .u8 z)) := by
  intro u hu
  rcases List.mem_or_eq_of_mem_set hu with h' | rfl
  · exact h u h'
  · exact ⟨z, rfl, h0, h1⟩

theorem BytesIn.made (n : Nat) : BytesIn (madeCells (Value.int .u8 0).cells (n * 1)).toList := by
  intro u hu
  have e : (Value.int .u8 0).cells = #[.int .u8 0] := rfl
  rw [e, toList_madeCells_one] at hu
  have := List.eq_of_mem_replicate hu
  exact ⟨0, this, by omega, by omega⟩

theorem row_at {w : World} {x : Addr} {zs : List Int} (hcell : ∀ i, i < zs.length → w.cell? (x.add i) = some (.int .u8 (zs.getD i 0))) (hwf : ∀ n ∈ zs, (Lit.int .u8 n).wf = true) (k : Nat) (hk : k < zs.length) :
    ∃ (b off : Nat) (z : Int), x = ⟨b, off, none⟩ ∧ b < w.heap.size ∧ w.cell? ⟨b, off + k, none⟩ = some (.int .u8 z) ∧ 0 ≤ z ∧ z ≤ 255 := by
  obtain ⟨b, off, rfl, hc⟩ := ints_at hcell (by omega)
  have h := hc k hk
  have hw := hwf (zs.getD k 0) (by rw [List.getD_eq_getElem?_getD, List.getElem?_eq_getElem hk]; exact List.getElem_mem hk)
  have hb := bounds_u8 hw
  exact ⟨b, off, zs.getD k 0, rfl, World.block_lt_of_cell? _ _ h, h, hb.1, hb.2⟩

def cellOf (c : UInt8) : Value := .int .u8 (c.toNat : Int)
/-- The cells that hold the bytes ys. -/
def rowOf (ys : List UInt8) : List Value := ys.map cellOf

/-- 'string(buf)' of a row of the call's own. -/
theorem conv_own {W : World} {B : Nat} {v : Value} {ys : List UInt8} (h : W.ownsRow B 5 1 v ys.length (rowOf ys)) :
    ∃ S : ByteArray, Hid (S.data.toList = ys) ∧ S.size = ys.length ∧ Sem.run Try.prog (convert 31 9 v) W = .ok (.string S) W := by
  refine ⟨⟨ys.toArray⟩, rfl, by simp [ByteArray.size], ?_⟩
  rcases h.2 with ⟨rfl, hn⟩ | ⟨g, cap, cur, rfl, _⟩
  · obtain rfl : ys = [] := List.eq_nil_of_length_eq_zero hn
    exact run_convert_bytes_nil W 31 5 Try.underlying31 Try.underlying5 0 0 9 Try.underlying9
  · refine run_convert_bytes_back W 31 9 5 ⟨g, 0, none⟩ cap ys Try.underlying31 Try.underlying5 Try.underlying9 (fun j hj => ?_)
    exact h.cells rfl j _ (by rw [rowOf, List.getElem?_map, List.getElem?_eq_getElem hj]; rfl)

/-- What the law builds, as a list. -/
theorem built_list (a0 S : ByteArray) (p : Nat) : (a0.extract 0 p ++ S ++ a0.extract p a0.size).data.toList = a0.data.toList.take p ++ S.data.toList ++ a0.data.toList.drop p := by
  rw [ByteArray.data_append, ByteArray.data_append, Array.toList_append, Array.toList_append, Lib.extract_data, Lib.extract_to_end, Nat.sub_zero]
  rfl

theorem own_step {w6 : World} {v' : Value} {B : Nat} {ys : List UInt8} {P : ByteArray} {j : Nat} (hj : j < P.size)
    (h : w6.ownsRow B 5 1 v' (ys.length + j + 1) (rowOf (ys ++ P.data.toList.take j) ++ [.int .u8 (P[j].toNat : Int)])) :
    w6.ownsRow B 5 1 v' (ys.length + (j + 1)) (rowOf (ys ++ P.data.toList.take (j + 1))) := by
  have e : P.data.toList.take (j + 1) = P.data.toList.take j ++ [P[j]] := by
    rw [List.take_succ_eq_append_getElem (by rw [← Lib.size_eq]; exact hj)]; rfl
  rw [e, ← List.append_assoc, rowOf, List.map_append, ← Nat.add_assoc]
  exact h

set_option maxRecDepth 100000 in
set_option maxHeartbeats 2000000 in
theorem insert_row (a0 : ByteArray) (a1 : Nat) (x : Addr) (len2 cap2 : Nat) (z2 : List Int) (w : World) (hs : a0.size ≤ 65536) (hl : len2 ≤ 4096) (hp : a1 ≤ a0.size)
    (hlc : len2 ≤ cap2) (hz : z2.length = cap2) (hcell : ∀ i, i < z2.length → w.cell? (x.add i) = some (.int .u8 (z2.getD i 0))) (hwf : ∀ n ∈ z2, (Lit.int .u8 n).wf = true) :
    Calls Try.prog 5 #[.string a0, .int .i64 a1, .slice (some x) len2 cap2] w fun e w' => e = .returned (.bool true) ∧ Below w.heap.size w w' := by
  obtain ⟨i0, hi, hz0, hz1, hz2⟩ := info_parts info5
  have HR := row_at hcell hwf
  have HR' : Hid (∀ k, k < len2 → ∃ (b off : Nat) (z : Int), x = ⟨b, off, none⟩ ∧ b < w.heap.size ∧ w.cell? ⟨b, off + k, none⟩ = some (.int .u8 z) ∧ 0 ≤ z ∧ z ≤ 255) := fun k hk => HR k (by omega)
  clear HR hcell hwf hz
  have hneq := fun (wx : World) => run_neq_slice_nil_any (P := Try.prog) wx 31 5 (some x) len2 cap2 0 0 Try.underlying31
  go_enter Try.func5, Try.ntmps5
  go_wp2_with (first | (go_at_call 17; go_in) | (at_make; refine wpList_make_full _ rfl (.tmp 40) (.tmp 40) 31 rfl w.heap.size 5 i0 (.int .u8 0) 1 Try.underlying31 hi hz0 hz1 .i64 .i64 _ _ len2 rfl rfl rfl rfl (by rw [hz2]; omega) (by unfold maxLen; omega) (Nat.le_refl _) ?_; intro w1 hown hgrow))
  have hB1 : Below w.heap.size w w1 := (Below.refl _ _).grown hgrow (Nat.le_refl _) (by simp)
  clear hgrow
  go_loopw [8] (fun i wr => ∃ (k : Nat) (xs : List Value), k ≤ len2 ∧ i = .int .i64 k ∧ wr.ownsRow w.heap.size 5 1 (.slice (some ⟨w.heap.size, 0, none⟩) len2 len2) len2 xs ∧ Hid (BytesIn xs) ∧ Below w.heap.size w wr) (fun i _ => len2 - (intOf i).toNat)
  case atStart => exact ⟨0, _, by omega, rfl, hown, BytesIn.made _, hB1⟩
  case round =>
    clear hown hB1
    obtain ⟨k, xs, hk, rfl, hown, hby, hB⟩ := hrel
    by_cases hlt : k < len2
    · obtain ⟨b, off, z, rfl, hb, hcz, hz0', hz1'⟩ := HR'.out k hlt
      have g1 : wr.cell? ⟨b, off + k, none⟩ = some (.int .u8 z) := (hB.cell hb).trans hcz
      have hxl : k < xs.length := by have := hown.1; omega
      have g2 : ∃ u, wr.cell? ⟨w.heap.size, k, none⟩ = some u := ⟨xs[k], by rw [hown.cellAt k (by omega)]; exact List.getElem?_eq_getElem _⟩
      obtain ⟨u, g2⟩ := g2
      have g3 : wr.frozen? ⟨w.heap.size, k, none⟩ = false := hown.frozenAt k
      clear hcz
      go_wp2
      go_roundw
      case rel => exact ⟨k + 1, xs.set k (.int .u8 z), by omega, by go_num, (hown.stored k (.int .u8 z)).1, hby.out.set k z hz0' hz1', hB.setCell (Nat.le_refl _) _⟩
      case measure => simp [intOf]; omega
    · have HC : Hid (∀ k, k < len2 → ∃ z : Int, wr.cell? ⟨w.heap.size, k, none⟩ = some (.int .u8 z) ∧ 0 ≤ z ∧ z ≤ 255) := by
        intro k hk
        have hxl : k < xs.length := by have := hown.1; omega
        obtain ⟨z, hz, h0, h1⟩ := hby.out xs[k] (List.getElem_mem hxl)
        exact ⟨z, by rw [hown.cellAt k (by omega), List.getElem?_eq_getElem hxl, hz], h0, h1⟩
      have hgz : w.heap.size < wr.heap.size := (hown.lt _ rfl).2
      go_wp2
      clear hown hby hneq HR' w1
      rename World => W2
      go_loop [9, 10] (fun tv iv => ∃ k t : Nat, k ≤ len2 ∧ t ≤ 27 * k ∧ tv = .int .i64 t ∧ iv = .int .i64 k) (fun _ i => len2 - (intOf i).toNat)
      case atStart => exact ⟨0, 0, by omega, by omega, rfl, rfl⟩
      case round =>
        obtain ⟨k2, t, hk2, ht, rfl, rfl⟩ := hrel
        by_cases hlt2 : k2 < len2
        · obtain ⟨z, g1, z0, z1⟩ := HC.out k2 hlt2
          go_wp2_with (go_at_call 18; refine (piece_any _ _ z0 z1).mono ?_; rintro e w' ⟨P, rfl, hPz, hPb, rfl⟩)
          go_round
          case rel => exact ⟨k2 + 1, t + P.size, by omega, by omega, by go_num, by go_num⟩
          case measure => simp [intOf]; omega
        · go_wp2_with (at_make; refine wpList_make_own _ rfl (.const (.int .i64 0)) (.tmp 72) 31 rfl W2.heap.size 5 i0 (.int .u8 0) 1 Try.underlying31 hi hz0 hz1 .i64 .i64 _ t rfl rfl rfl (by rw [hz2]; omega) (by unfold maxLen; omega) (Nat.le_refl _) ?_; intro w3 hown3 hgrow3)
          have hB3 : Below W2.heap.size W2 w3 := (Below.refl _ _).grown hgrow3 (Nat.le_refl _) (by simp)
          clear hgrow3
          go_loopw [11, 12] (fun v iv w4 => ∃ (k : Nat) (ys : List UInt8), k ≤ len2 ∧ iv = .int .i64 k ∧ w4.ownsRow W2.heap.size 5 1 v ys.length (rowOf ys) ∧ Hid (Blanky ys) ∧ ys.length ≤ 27 * k ∧ Below W2.heap.size W2 w4) (fun _ i _ => len2 - (intOf i).toNat)
          case atStart => exact ⟨0, [], by omega, rfl, hown3, Blanky.nil, by simp, hB3⟩
          case round =>
            clear hown3 hB3
            obtain ⟨k3, ys, hk3, rfl, hown4, hbl, hyl, hB4⟩ := hrel
            by_cases hlt3 : k3 < len2
            · obtain ⟨z, g1, z0, z1⟩ := HC.out k3 hlt3
              have g1' : wr.cell? ⟨w.heap.size, k3, none⟩ = some (.int .u8 z) := (hB4.cell hgz).trans g1
              clear g1
              go_wp2_with (go_at_call 18; refine (piece_any _ _ z0 z1).mono ?_; rintro e w' ⟨P, rfl, hPz, hPb, rfl⟩)
              clear g1'
              rename World => W4
              go_loopw [11, 14] (fun v jv w5 => ∃ j : Nat, j ≤ P.size ∧ jv = .int .i64 j ∧ w5.ownsRow W2.heap.size 5 1 v (ys.length + j) (rowOf (ys ++ P.data.toList.take j)) ∧ Below W2.heap.size W2 w5) (fun _ jv _ => P.size - (intOf jv).toNat)
              case atStart => exact ⟨0, by omega, rfl, by simpa using hown4, hB4⟩
              case round =>
                clear hown4 hB4
                obtain ⟨j, hj, rfl, hown5, hB5⟩ := hrel
                by_cases hltj : j < P.size
                · go_wp2_with (at_builtin; refine wpList_append_own _ rfl (.tmp 91) (.tmp 95) 31 rfl W2.heap.size 5 i0 (.int .u8 0) 1 1 Try.underlying31 hi hz0 hz1 hz2 rfl (by decide) _ _ _ rfl (hown5.alloc _) ⟨wr.heap.size, 0, none⟩ 1 1 [.int .u8 (P[j].toNat : Int)] rfl rfl ?c1 ?c2 ?c3 ?c4 ?c5 ?_)
                  case c1 =>
                    intro j u hj
                    match j, hj with
                    | 0, hj => simp at hj; subst hj; simp [Addr.add]
                  case c2 => intro u hu; simp at hu; subst hu; rfl
                  case c3 => unfold maxLen; omega
                  case c4 => omega
                  case c5 => have := hB5.size; simp; omega
                  · intro v' w6 hown6 hgrow6 _
                    have hB6 : Below W2.heap.size W2 w6 := (hB5.alloc hB5.size _).grown hgrow6 (by have := hB5.size; simp; omega) (fun g hg => (hown5.lt g hg).1)
                    have hown7 := own_step hltj hown6
                    clear hown6 hgrow6 hown5 hB5
                    go_wp2
                    go_roundw
                    case rel => exact ⟨j + 1, by omega, by go_num, hown7, hB6⟩
                    case measure => simp [intOf]; omega
                · have hfull : P.data.toList.take j = P.data.toList := List.take_of_length_le (by rw [← Lib.size_eq]; omega)
                  have hjP : j = P.data.toList.length := by rw [← Lib.size_eq]; omega
                  rw [hfull, hjP, ← List.length_append] at hown5
                  have hyl' : (ys ++ P.data.toList).length ≤ 27 * (k3 + 1) := by rw [List.length_append, ← Lib.size_eq]; omega
                  have HBL : Hid (Blanky (ys ++ P.data.toList)) := hbl.out.append hPb.out
                  clear hfull hjP
                  go_wp2
                  go_roundw
                  case rel => exact ⟨k3 + 1, ys ++ P.data.toList, by omega, by go_num, hown5, HBL, hyl', hB5⟩
                  case measure => simp [intOf]; omega
            · obtain ⟨S, hSl, hSz, hconv⟩ := conv_own hown4
              have hSb : S.size ≤ 110592 := by omega
              have HSZ : Hid (S.size = ys.length) := hSz
              clear hSz
              go_wp2_with fail
              refine (zzSkipSpace_any a0 a1 _ (by omega) hp).mono ?_
              rintro e w5 ⟨rfl, hB5⟩
              have hbs := (mach_bounds (a0.data.toList.drop a1) 0 0 0 a1 0 (by omega) (by omega) (by omega)).2
              rw [List.length_drop, ← Lib.size_eq] at hbs
              generalize hR : mach (a0.data.toList.drop a1) 0 0 0 a1 = R at hbs
              have HR : Hid (mach (a0.data.toList.drop a1) 0 0 0 a1 = R) := hR
              clear hR hconv hown4
              go_wp2_with fail
              go_quiet (fail)
              go_wp2_with fail
              have hv : mach ((a0.extract 0 a1 ++ S ++ a0.extract a1 a0.size).data.toList.drop a1) 0 0 0 a1 = R + S.size := by
                rw [built_list, hSl.out, blanky_shift hbl.out a1 (by rw [List.length_take, ← Lib.size_eq]; omega), List.take_append_drop, HR.out, HSZ.out]
              have hbz : (a0.extract 0 a1 ++ S ++ a0.extract a1 a0.size).size ≤ 1048576 ∧ a1 ≤ (a0.extract 0 a1 ++ S ++ a0.extract a1 a0.size).size := by
                rw [Lib.size_eq, built_list, List.length_append, List.length_append, List.length_take, List.length_drop, ← Lib.size_eq, ← Lib.size_eq]
                omega
              generalize (a0.extract 0 a1 ++ S ++ a0.extract a1 a0.size) = T at *
              refine (zzSkipSpace_any T a1 _ hbz.1 hbz.2).mono ?_
              rintro e w6 ⟨rfl, hB6⟩
              rw [hv, Int.natCast_add]
              clear hv hbz
              go_wp2_with fail
              go_ret
              exact ⟨rfl, hB.trans ((hB4.mono hB.size).trans ((hB5.mono (Nat.le_trans hB.size hB4.size)).trans ((below_drewN (Below.refl _ _) _).trans (hB6.mono (Nat.le_trans hB.size (Nat.le_trans hB4.size hB5.size))))))⟩

set_option maxRecDepth 100000 in
set_option maxHeartbeats 2000000 in
theorem insert_nil (a0 : ByteArray) (a1 : Nat) (w : World) (hs : a0.size ≤ 65536) (hp : a1 ≤ a0.size) :
    Calls Try.prog 5 #[.string a0, .int .i64 a1, .slice none 0 0] w fun e w' => e = .returned (.bool true) ∧ Below w.heap.size w w' := by
  obtain ⟨i0, hi, hz0, hz1, hz2⟩ := info_parts info5
  have hneq := fun (wx : World) => run_neq_slice_nil_any (P := Try.prog) wx 31 5 none 0 0 0 0 Try.underlying31
  go_enter Try.func5, Try.ntmps5
  go_wp2_with (go_at_call 17; go_in)
  clear hneq
  go_loop [9, 10] (fun tv iv => tv = .int .i64 0 ∧ iv = .int .i64 0) (fun _ _ => 0)
  case atStart => exact ⟨rfl, rfl⟩
  case round =>
    obtain ⟨rfl, rfl⟩ := hrel
    go_wp2_with (at_make; refine wpList_make_own _ rfl (.const (.int .i64 0)) (.tmp 72) 31 rfl w.heap.size 5 i0 (.int .u8 0) 1 Try.underlying31 hi hz0 hz1 .i64 .i64 _ 0 rfl rfl rfl (by rw [hz2]; omega) (by unfold maxLen; omega) (Nat.le_refl _) ?_; intro w3 hown3 hgrow3)
    have hB3 : Below w.heap.size w w3 := (Below.refl _ _).grown hgrow3 (Nat.le_refl _) (by simp)
    clear hgrow3
    go_loopw [11, 12] (fun v iv w4 => ∃ (ys : List UInt8), ys.length ≤ 0 ∧ iv = .int .i64 0 ∧ w4.ownsRow w.heap.size 5 1 v ys.length (rowOf ys) ∧ Hid (Blanky ys) ∧ Below w.heap.size w w4) (fun _ _ _ => 0)
    case atStart => exact ⟨[], by simp, rfl, hown3, Blanky.nil, hB3⟩
    case round =>
      clear hown3 hB3
      obtain ⟨ys, hyl, rfl, hown4, hbl, hB4⟩ := hrel
      obtain ⟨S, hSl, hSz, hconv⟩ := conv_own hown4
      have hSb : S.size ≤ 110592 := by omega
      have HSZ : Hid (S.size = ys.length) := hSz
      clear hSz
      go_wp2_with fail
      refine (zzSkipSpace_any a0 a1 _ (by omega) hp).mono ?_
      rintro e w5 ⟨rfl, hB5⟩
      have hbs := (mach_bounds (a0.data.toList.drop a1) 0 0 0 a1 0 (by omega) (by omega) (by omega)).2
      rw [List.length_drop, ← Lib.size_eq] at hbs
      generalize hR : mach (a0.data.toList.drop a1) 0 0 0 a1 = R at hbs
      have HR : Hid (mach (a0.data.toList.drop a1) 0 0 0 a1 = R) := hR
      clear hR hconv hown4
      go_wp2_with fail
      go_quiet (fail)
      go_wp2_with fail
      have hv : mach ((a0.extract 0 a1 ++ S ++ a0.extract a1 a0.size).data.toList.drop a1) 0 0 0 a1 = R + S.size := by
        rw [built_list, hSl.out, blanky_shift hbl.out a1 (by rw [List.length_take, ← Lib.size_eq]; omega), List.take_append_drop, HR.out, HSZ.out]
      have hbz : (a0.extract 0 a1 ++ S ++ a0.extract a1 a0.size).size ≤ 1048576 ∧ a1 ≤ (a0.extract 0 a1 ++ S ++ a0.extract a1 a0.size).size := by
        rw [Lib.size_eq, built_list, List.length_append, List.length_append, List.length_take, List.length_drop, ← Lib.size_eq, ← Lib.size_eq]
        omega
      generalize (a0.extract 0 a1 ++ S ++ a0.extract a1 a0.size) = T at *
      refine (zzSkipSpace_any T a1 _ hbz.1 hbz.2).mono ?_
      rintro e w6 ⟨rfl, hB6⟩
      rw [hv, Int.natCast_add]
      clear hv hbz
      go_wp2_with fail
      go_ret
      exact ⟨rfl, hB4.trans ((hB5.mono hB4.size).trans ((below_drewN (Below.refl _ _) _).trans (hB6.mono (Nat.le_trans hB4.size hB5.size))))⟩
end Go.Proofs.Qxb6601015a.SK
