/-
  'Rows.FnBigIntegerAgreesWithUint64CardSaid', proved: the law's walk (Qxb6601452aDoorLaw), the row's own frame, the tied card.
  The law's answer does not hang on the listed variables: the walk meets none of them. The witness starts in the heap that the door's own run leaves.
-/
import Derived.Test.Qxb6601452aDoorRows
import Derived.Test.Qxb6601452aDoorTie
import Derived.Test.Qxb6601452aDoorCards
import Derived.Test.Qxb6601452aDoorLaw
import Derived.WalkKit
import Derived.ProofKit
import Derived.LaidMore
import Derived.Below
import Derived.Stop.Joined
import Derived.SevenTiedAt
namespace Go.Proofs.Qxb6601452aDoor.fnBigIntegerAgreesWithUint64
open Go Go.ChangeShapes Go.WideShapes Go.ChangeAt Go.RowKit

theorem own : ownKnob Tryd.prog.godebug = none := by kernel_rfl

/-- The door's own heap meets the condition. -/
theorem door_met (os : Os) (args : Array Value) : laidMetH Tryd.prog Rows.fnBigIntegerAgreesWithUint64Row.laid ((World.doorLaid Tryd.prog 62 os).forCall (fun _ _ => 0) ⟨#[], args, []⟩).memory :=
  laidMetH_of_parts3 (fuel := 8) (laidMet_of_run' 8 (by kernel_rfl) (by kernel_rfl)) (by kernel_rfl) (by kernel_rfl)

set_option maxRecDepth 100000 in
theorem lifted (os : Os) (started : os.Started) (H : Type) (enc : TypeId × Value → H) :
    ReturnsInHanded {} Tryd.checked os 4 .any (fun w args => (Rows.fnBigIntegerAgreesWithUint64Spec.pre enc Tryd.prog Tryd.f4 [] false w args ∧ laidMetH Tryd.prog Rows.fnBigIntegerAgreesWithUint64Row.laid w) ∧ sizedMet enc Tryd.prog Tryd.f4 (OpenSpec.ofChange Rows.fnBigIntegerAgreesWithUint64Spec) false w args)
      (Rows.fnBigIntegerAgreesWithUint64Spec.post enc Tryd.prog Tryd.f4 false true false false) := by
  refine returnsInHanded_of_change_and (C := Tryd.checked) (X := fun w _ => laidMetH Tryd.prog Rows.fnBigIntegerAgreesWithUint64Row.laid w) (fun _ _ _ hh h => h.of_heap hh) own started (by kernel_rfl) Tryd.func4
    (ChangeSpec.witness_shaped (enc := enc) (C := Tryd.checked) (os := os) (X := fun w _ => laidMetH Tryd.prog Rows.fnBigIntegerAgreesWithUint64Row.laid w) false (World.doorLaid Tryd.prog 62 os) #[.int .u64 0, .bool false] 8 rfl (World.shaped_of_RefB (by kernel_rfl) (by kernel_rfl)) (by kernel_rfl) (by kernel_rfl) (by kernel_rfl) (door_met os _)) ?_
  intro W base args ds gs before hval0 hW _ _ hL _
  have hval : ∀ (j : Nat) t v, Tryd.f4.params[j]? = some t → args[j]? = some v → Value.okWide Tryd.prog W .any base t v := hval0
  have hW' := hW
  obtain ⟨p, q, hA0, hV, rfl, hfz, hnd⟩ := hW
  have hA : DataW.TrodAll enc Tryd.prog W 0 (fun _ => true) true Tryd.f4.params.toList args.toList ds p := hA0
  rw [Tryd.params4] at hA hval
  obtain ⟨v0, v1, d0, d1, p0, p1, rfl, rfl, rfl, h0, h1⟩ := trodAll_two hA
  obtain ⟨rfl, rfl⟩ := trodVars_none hV
  obtain ⟨x, rfl, rfl, rfl, wx⟩ := open_int Tryd.underlying24 (hval 0 24 v0 rfl rfl) h0
  obtain ⟨neg, rfl, rfl, rfl⟩ := open_bool Tryd.underlying4 (hval 1 4 v1 rfl rfl) h1
  clear hA0 hval0
  obtain ⟨n, rfl, hn⟩ : ∃ n : Nat, x = (n : Int) ∧ n ≤ 18446744073709551615 := by
    have h : (0 ≤ x ∧ x ≤ 18446744073709551615) := by
      simpa [Lit.wf, IntKind.min, IntKind.max, IntKind.signed, IntKind.bits] using wx
    exact ⟨x.toNat, by omega, by omega⟩
  refine (BI.law_at n neg W hn _ rfl).mono fun e W' ⟨he, bel⟩ => ?_
  subst he
  exact ⟨_, rfl, _, _, _, [], _, [], hW', trodAll_mk1 (shut_bool Tryd.underlying4 _), trodAll_mk2 (shut_int Tryd.underlying24 wx) (shut_bool Tryd.underlying4 _), rfl, bel.frame _, fun h => by cases h⟩

theorem over : Rows.FnBigIntegerAgreesWithUint64Said :=
  OpenClaim.holds_of_wide 4 Tryd.f4 rfl rfl rfl rfl rfl rfl rfl ⟨rfl, rfl, rfl, rfl, rfl⟩ rfl rfl rfl rfl rfl (by kernel_rfl) Tryd.func4 (by kernel_rfl)
    (of_decide_eq_true (by kernel_rfl)) (by unfold Func.isWrapper; first | (rw [if_pos (by decide +kernel)]; kernel_rfl) | (rw [if_neg (by decide +kernel)]; exact ⟨rfl, rfl⟩))
    (fun os started H enc _ => lifted os started H enc)

/-- ████ THE STATEMENT ████ -/
theorem proved : Rows.FnBigIntegerAgreesWithUint64CardSaid :=
  Claim7.holds_tied_plain_at .later [] [.data, .data, .data, .sentinel, .sentinel] true (true, "e6422c257e5548fdaa556217d7087998e4d5d638c17b5f6077775fed405b38aa") true
    over (fun _ h => by cases h) (by kernel_rfl) (fun _ h => by cases h) fnBigIntegerAgreesWithUint64_row_tie rfl ⟨rfl, rfl⟩ (by kernel_rfl) rfl
    (fun f fn hf hfn => by
      obtain rfl : f = 4 := Option.some.inj ((show Tryd.prog.funcNamed Rows.fnBigIntegerAgreesWithUint64Row.func = some 4 by kernel_rfl).symm.trans hf) |>.symm
      obtain rfl : fn = Tryd.f4 := (Option.some.inj (Tryd.func4.symm.trans hfn)).symm
      exact ⟨by kernel_rfl, fun j t ht => by
        rw [Tryd.params4] at ht
        have h3 : t = 24 ∨ t = 4 := by
          rcases j with _ | _ | j
          · left; simpa using ht.symm
          · right; simpa using ht.symm
          · simp at ht
        rcases h3 with rfl | rfl
        · exact (show Tryd.prog.wantsStandIn 24 = false by kernel_rfl)
        · exact (show Tryd.prog.wantsStandIn 4 = false by kernel_rfl)⟩)
    (by kernel_rfl)
#print axioms proved
end Go.Proofs.Qxb6601452aDoor.fnBigIntegerAgreesWithUint64
