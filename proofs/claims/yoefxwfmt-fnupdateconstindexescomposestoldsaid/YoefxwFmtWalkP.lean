/-
  THE FIRST LAW'S CARD: told and tied.
-/
import Derived.Test.YoefxwFmtWalkO
namespace Go.Proofs.YoefxwFmt
open Go.ChangeShapes Go.WideShapes Go.ChangeAt Go.WideMaps Go.WideElems Go.RowKit
open Go.Extern.Stop Go.Stop Go.Extern

theorem Efxg.own : ownKnob Efxg.prog.godebug = none := by kernel_rfl
theorem Efxg.laidOut : laidOutB Efxg.prog = true := by kernel_rfl
theorem door_met (os : Os) (args : Array Value) : laidMetH Efxg.prog Rows.fnUpdateConstIndexesMatchesRebuiltProgramRow.laid ((World.doorLaid Efxg.prog 75 os).forCall (fun _ _ => 0) ⟨#[], args, []⟩).memory :=
  laidMetH_of_parts3 (fuel := 8) (laidMet_of_run' 8 (by kernel_rfl) (by kernel_rfl)) (by kernel_rfl) (by kernel_rfl)

set_option maxRecDepth 100000 in
set_option maxHeartbeats 1600000 in
theorem t_lifted3 (os : Os) (started : os.Started) (H : Type) (enc : TypeId × Value → H) :
    ReturnsInTold none {} Efxg.checked os 3 .any Input.okWide ((OpenSpec.ofChange Rows.fnUpdateConstIndexesMatchesRebuiltProgramSpec).preRow enc Efxg.prog Efxg.f3 [] false Rows.fnUpdateConstIndexesMatchesRebuiltProgramRow.laid)
      (fun F => ((OpenSpec.ofChange Rows.fnUpdateConstIndexesMatchesRebuiltProgramSpec).at F).post enc Efxg.prog Efxg.f3 false true false false) (aloneAtReturn Efxg.prog) nothingAlways := by
  refine returnsInTold_of_row (C := Efxg.checked) (s := OpenSpec.ofChange Rows.fnUpdateConstIndexesMatchesRebuiltProgramSpec) (by kernel_rfl) Efxg.own started (by kernel_rfl) Efxg.func3
    (OpenSpec.witness_stopped_atRef (enc := enc) (C := Efxg.checked) false (World.doorLaid Efxg.prog 75 os) #[.slice none 0 0, .slice none 0 0] rfl (by kernel_rfl) (by kernel_rfl) (by kernel_rfl)
      (OpenSpec.preRow_of_B rfl 8 (by kernel_rfl) (by kernel_rfl) (door_met os _))) ?_
  intro F W base args ds gs before _ hF hval0 hW _ _ _ hL _
  have hval : ∀ (j : Nat) t v, Efxg.f3.params[j]? = some t → args[j]? = some v → Value.okWide Efxg.prog W .any base t v := hval0
  have hW' := hW
  obtain ⟨p, q, hA0, hV0, rfl, hfz, hnd⟩ := hW
  have hA : DataW.TrodAll enc Efxg.prog W 0 (fun _ => true) true Efxg.f3.params.toList args.toList ds p := hA0
  have hV : DataW.TrodVars enc Efxg.prog W (fun _ => true) Rows.fnUpdateConstIndexesMatchesRebuiltProgramSpec.vars gs q := hV0
  rw [Efxg.params3] at hA hval
  obtain ⟨v0, v1, d0, d1, p0, p1, rfl, rfl, rfl, h0, h1⟩ := trodAll_two hA
  obtain ⟨ap, ps, cp, rfl, hi, hok, hpl⟩ := open_inss (hval 0 22 v0 rfl rfl) h0
  obtain ⟨am, to, cm, rfl, hn, hu, htl⟩ := open_nums (hval 1 23 v1 rfl rfl) h1
  obtain ⟨g1, hg1⟩ : ∃ g1, gs = [g1] := by
    obtain ⟨_, _, _, _, d, _, h, _⟩ := trodVars_one hV
    exact ⟨d, h⟩
  subst hg1
  have T := of_laid hL
  clear hA0 hV0 hval0
  have hlt : ∀ x ∈ (p0 ++ p1) ++ q, x.block < W.heap.size := fun x hx => hW'.lt x hx
  refine (law3_any _ ap ps cp am to cm W T hok hu hpl htl hi hn).mono fun e W' hend => ?_
  obtain ⟨he, hB⟩ := hend
  subst he
  refine ⟨_, rfl, _, _, _, [], p0 ++ p1, q, hW', ?_, ?_, ?_, hB.frame _, fun h => by cases h⟩
  · exact trodAll_mk1 (shut_bool Efxg.underlying4 true)
  · exact trodAll_mk2 (Below.trod Efxg.laidOut (by kernel_rfl) (of_decide_eq_true (by kernel_rfl)) h0 hB (fun x hx => hlt x (by simp [hx]))) (Below.trod Efxg.laidOut (by kernel_rfl) (of_decide_eq_true (by kernel_rfl)) h1 hB (fun x hx => hlt x (by simp [hx])))
  · exact Below.trodVars Efxg.laidOut hB (by kernel_rfl) hV
end Go.Proofs.YoefxwFmt
