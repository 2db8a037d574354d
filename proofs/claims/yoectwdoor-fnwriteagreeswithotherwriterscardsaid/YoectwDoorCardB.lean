/-
  THE SECOND STATEMENT: the row of FnWriteAgreesWithOtherWriters, and its tied card.
-/
import Derived.Test.YoectwDoorRows
import Derived.Test.YoectwDoorTie
import Derived.Test.YoectwDoorCards
import Derived.Test.YoectwDoorLaid
import Derived.Test.YoectwDoorAgrees
import Derived.SevenTiedAt
namespace Go.Proofs.YoectwDoor
open Go Go.ChangeShapes Go.WideShapes Go.ChangeAt Go.WideMaps Go.WideElems Go.RowKit

set_option maxRecDepth 100000 in
theorem agrees_lifted (os : Os) (started : os.Started) (H : Type) (enc : TypeId × Value → H) :
    ReturnsInHanded {} Ectg.checked os 4 .any (fun w args => (Rows.fnWriteAgreesWithOtherWritersSpec.pre enc Ectg.prog Ectg.f4 [] false w args ∧ laidMetH Ectg.prog laid2 w) ∧ sizedMet enc Ectg.prog Ectg.f4 (OpenSpec.ofChange Rows.fnWriteAgreesWithOtherWritersSpec) false w args)
      (Rows.fnWriteAgreesWithOtherWritersSpec.post enc Ectg.prog Ectg.f4 false true false false) := by
  refine returnsInHanded_of_change_and (C := Ectg.checked) (X := fun w _ => laidMetH Ectg.prog laid2 w) (fun _ _ _ hh h => h.of_heap hh) own started (by kernel_rfl) Ectg.func4
    (ChangeSpec.witness_shaped (enc := enc) (C := Ectg.checked) (os := os) (X := fun w _ => laidMetH Ectg.prog laid2 w) false (World.doorLaid Ectg.prog 32 os) #[.slice none 0 0] 8 rfl (World.shaped_of_RefB (by kernel_rfl) (by kernel_rfl)) (by kernel_rfl) (by kernel_rfl) (by kernel_rfl) (door_met os _)) ?_
  intro W base args ds gs before hval0 hW _ _ hL _
  have hval : ∀ (j : Nat) t v, Ectg.f4.params[j]? = some t → args[j]? = some v → Value.okWide Ectg.prog W .any base t v := hval0
  have hW' := hW
  obtain ⟨p, q, hA0, hV0, rfl, hfz, hnd⟩ := hW
  have hA : DataW.TrodAll enc Ectg.prog W 0 (fun _ => true) true Ectg.f4.params.toList args.toList ds p := hA0
  have hV : DataW.TrodVars enc Ectg.prog W (fun _ => true) [nMax, nErr] gs q := hV0
  rw [Ectg.params4] at hA hval
  obtain ⟨v0, d0, rfl, rfl, h0⟩ := trodAll_one hA
  obtain ⟨g1, g2, rfl⟩ := two_vars hV
  obtain ⟨b0, lb, cb, rfl⟩ := okWide_slice Ectg.underlying22 (hval 0 22 v0 rfl rfl)
  have lt0 : ∀ x ∈ p, x.block < W.heap.size := by obtain ⟨m, hm⟩ := h0; exact DataW.trod_lt m _ _ _ hm
  obtain ⟨zb, rb⟩ := isRow_of_trod h0 (fun _ => rfl)
  have hmax := max_of_laid hL
  clear hA0 hval0
  refine (agrees_any b0 lb cb zb W rb hmax).mono fun e W' ⟨he, bel⟩ => ?_
  subst he
  exact ⟨_, rfl, _, _, _, [], _, _, hW', trodAll_mk1 (shut_bool Ectg.underlying4 _),
    trodAll_mk1 (Below.trod laidOut (by kernel_rfl) (of_decide_eq_true (by kernel_rfl)) h0 bel lt0),
    Below.trodVars laidOut bel vars_rowed hV, bel.frame _, fun h => by cases h⟩

theorem agrees_holds : Rows.FnWriteAgreesWithOtherWritersSaid :=
  OpenClaim.holds_of_wide 4 Ectg.f4 rfl rfl rfl rfl rfl rfl rfl ⟨rfl, rfl, rfl, rfl, rfl⟩ rfl rfl rfl rfl rfl (by kernel_rfl) Ectg.func4 (by kernel_rfl)
    (of_decide_eq_true (by kernel_rfl)) (by unfold Func.isWrapper; first | (rw [if_pos (by decide +kernel)]; kernel_rfl) | (rw [if_neg (by decide +kernel)]; exact ⟨rfl, rfl⟩))
    (fun os started H enc _ => agrees_lifted os started H enc)

/-- THE CARD. -/
theorem agrees_card : Rows.FnWriteAgreesWithOtherWritersCardSaid :=
  Claim7.holds_tied_plain_at .later [] [.called, .data] true (true, "7abb18293b60008fcc8a762a32ac1694f4dfa8b02c42550c142e17b300c1ca58") false
    agrees_holds (fun _ h => by cases h) (by kernel_rfl) (fun _ h => by cases h) fnWriteAgreesWithOtherWriters_row_tie rfl ⟨rfl, rfl⟩ (by kernel_rfl) rfl
    (fun f fn hf hfn => by
      obtain rfl : f = 4 := Option.some.inj ((show Ectg.prog.funcNamed Rows.fnWriteAgreesWithOtherWritersRow.func = some 4 by kernel_rfl).symm.trans hf) |>.symm
      obtain rfl : fn = Ectg.f4 := (Option.some.inj (Ectg.func4.symm.trans hfn)).symm
      exact ⟨by kernel_rfl, fun j t ht => by
        rw [Ectg.params4] at ht
        have hm : t ∈ [22] := by simpa using Array.mem_of_getElem? ht
        have hall : ([22].all fun u => !Ectg.prog.wantsStandIn u) = true := by kernel_rfl
        exact (show Ectg.prog.wantsStandIn t = false by simpa using List.all_eq_true.1 hall t hm)⟩)
    (by kernel_rfl)
end Go.Proofs.YoectwDoor
