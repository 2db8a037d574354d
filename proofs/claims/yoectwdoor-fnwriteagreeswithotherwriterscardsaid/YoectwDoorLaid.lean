/-
  What the rows' listed variables give: the limit's cell; the witness's start; an argument opened.
-/
import Derived.Test.YoectwDoorRows
import Derived.Test.YoectwDoorClone
import Derived.ProofKit
import Derived.LaidMore
import Derived.OpenShut
import Derived.OpenVars
import Derived.Stop.Joined
namespace Go.Proofs.YoectwDoor
open Go.ChangeShapes Go.WideShapes Go.ChangeAt Go.WideMaps Go.WideElems Go.RowKit

theorem own : ownKnob Ectg.prog.godebug = none := by kernel_rfl
theorem laidOut : laidOutB Ectg.prog = true := by kernel_rfl
/-- The two named variables, by the given specification's own list. -/
abbrev nMax : String := Rows.fnWriteConcatenatesSpec.vars.headD ""
abbrev nErr : String := Rows.fnWriteConcatenatesSpec.vars.tail.headD ""
theorem gMax : Ectg.prog.globalNamed nMax = some 0 := by kernel_rfl
theorem tMax : (Ectg.prog.globals[0]?).map (·.type) = some 3 := by kernel_rfl
theorem vars_rowed : varsRowed Ectg.prog [nMax, nErr] = true := by kernel_rfl

/-- What the rows list. -/
abbrev laid2 : List (String × DataW Unit) := Rows.fnWriteConcatenatesRow.laid

/-- The door's own heap meets the condition. -/
theorem door_met (os : Os) (args : Array Value) : laidMetH Ectg.prog laid2 ((World.doorLaid Ectg.prog 32 os).forCall (fun _ _ => 0) ⟨#[], args, []⟩).memory :=
  laidMetH_of_parts3 (fuel := 8) (laidMet_of_run' 8 (by kernel_rfl) (by kernel_rfl)) (by kernel_rfl) (by kernel_rfl)

/-- WHAT THE CONDITION GIVES THE WALKS: the limit's cell. -/
theorem max_of_laid {W : World} (h : laidMetH Ectg.prog laid2 W) : W.cell? ⟨0, 0, none⟩ = some (.int .i64 2147483647) := by
  rw [MakeChecks.laidMetH_plain _ _ _ (by kernel_rfl)] at h
  obtain ⟨ps, ⟨g0, t0, cs0, f0, p0, q0, hg0, ht0, hv0, hd0, ⟨g1, t1, cs1, f1, p1, q1, hg1, ht1, hv1, hd1, _, _⟩, _⟩, _, _⟩ := h
  obtain rfl := Option.some.inj (gMax.symm.trans hg1)
  obtain rfl := Option.some.inj (tMax.symm.trans ht1)
  obtain ⟨n, e1, e2, _⟩ := DataW.trod_int Ectg.underlying3 hd1
  have hn : n = 2147483647 := by
    simp [Rows.laid_github_com_d5_tengo_v2_MaxStringLen] at e2
    omega
  subst hn
  have := World.var?_cell hg1 hv1 0
  rw [Array.eq_one_of_toList e1] at this
  simpa using this

/-- A []byte that came in, opened. -/
theorem isRow_of_trod {H : Type} {enc : TypeId × Value → H} {W : World} {a : Option Addr} {len cap : Nat} {d : DataW H} {p : List MemPlace} {sp : Nat → Bool} {b : Bool} {lo : Nat}
    (h : DataW.Trod enc Ectg.prog W lo sp b 22 (.slice a len cap) d p) (hsp : ∀ k, sp k = true) : ∃ zs, IsRow W a len cap zs := by
  obtain ⟨fuel, hf⟩ := h
  rcases open_ints Ectg.underlying22 Ectg.underlying5 (by kernel_rfl) hf with ⟨hcs, _⟩ | ⟨x, l, c, zs, hcs, _, hl, hm, hz, _, hcell, hwz⟩
  · simp [Value.cells] at hcs
    obtain ⟨rfl, rfl, rfl⟩ := hcs
    exact ⟨[], .inl ⟨rfl, rfl, rfl, rfl⟩⟩
  · simp [Value.cells] at hcs
    obtain ⟨rfl, rfl, rfl⟩ := hcs
    exact ⟨zs, .inr ⟨_, rfl, hl, by simpa [hsp] using hz, hcell, hwz⟩⟩

/-- The named variables' data: two of them. -/
theorem two_vars {H : Type} {enc : TypeId × Value → H} {W : World} {sp : Nat → Bool} {gs : List (DataW H)} {q : List MemPlace} (h : DataW.TrodVars enc Ectg.prog W sp [nMax, nErr] gs q) : ∃ g1 g2, gs = [g1, g2] := by
  match gs, h with
  | [], h => exact h.elim
  | [_], h =>
    obtain ⟨_, _, _, _, _, _, _, _, _, _, h, _⟩ := h
    exact h.elim
  | [g1, g2], _ => exact ⟨g1, g2, rfl⟩
  | _ :: _ :: _ :: _, h =>
    obtain ⟨_, _, _, _, _, _, _, _, _, _, ⟨_, _, _, _, _, _, _, _, _, _, h, _⟩, _⟩ := h
    exact h.elim
end Go.Proofs.YoectwDoor
