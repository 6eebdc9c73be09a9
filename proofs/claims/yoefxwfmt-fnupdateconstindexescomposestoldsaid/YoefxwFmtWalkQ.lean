/-
  THE SECOND LAW, LIFTED: told and tied.
-/
import Derived.Test.YoefxwFmtWalkN
import Derived.Test.YoefxwFmtWalkP
namespace Go.Proofs.YoefxwFmt
open Go.ChangeShapes Go.WideShapes Go.ChangeAt Go.WideMaps Go.WideElems Go.RowKit
open Go.Extern.Stop Go.Stop Go.Extern

set_option maxRecDepth 100000 in
set_option maxHeartbeats 1600000 in
theorem t_lifted4 (os : Os) (started : os.Started) (H : Type) (enc : TypeId × Value → H) :
    ReturnsInTold none {} Efxg.checked os 4 .any Input.okWide ((OpenSpec.ofChange Rows.fnUpdateConstIndexesComposesSpec).preRow enc Efxg.prog Efxg.f4 [] false Rows.fnUpdateConstIndexesComposesRow.laid)
      (fun F => ((OpenSpec.ofChange Rows.fnUpdateConstIndexesComposesSpec).at F).post enc Efxg.prog Efxg.f4 false true false false) (aloneAtReturn Efxg.prog) nothingAlways := by
  refine returnsInTold_of_row (C := Efxg.checked) (s := OpenSpec.ofChange Rows.fnUpdateConstIndexesComposesSpec) (by kernel_rfl) Efxg.own started (by kernel_rfl) Efxg.func4
    (OpenSpec.witness_stopped_atRef (enc := enc) (C := Efxg.checked) false (World.doorLaid Efxg.prog 75 os) #[.slice none 0 0, .slice none 0 0, .slice none 0 0] rfl (by kernel_rfl) (by kernel_rfl) (by kernel_rfl)
      (OpenSpec.preRow_of_B rfl 8 (by kernel_rfl) (by kernel_rfl) (door_met os _))) ?_
  intro F W base args ds gs before _ hF hval0 hW _ _ _ hL _
  have hval : ∀ (j : Nat) t v, Efxg.f4.params[j]? = some t → args[j]? = some v → Value.okWide Efxg.prog W .any base t v := hval0
  have hW' := hW
  obtain ⟨p, q, hA0, hV0, rfl, hfz, hnd⟩ := hW
  have hA : DataW.TrodAll enc Efxg.prog W 0 (fun _ => true) true Efxg.f4.params.toList args.toList ds p := hA0
  have hV : DataW.TrodVars enc Efxg.prog W (fun _ => true) Rows.fnUpdateConstIndexesComposesSpec.vars gs q := hV0
  rw [Efxg.params4] at hA hval
  obtain ⟨v0, v1, v2, d0, d1, d2, p0, p1, p2, rfl, rfl, rfl, h0, h1, h2⟩ := trodAll_three hA
  obtain ⟨ap, ps, cp, rfl, hi, hok, hpl⟩ := open_inss (hval 0 22 v0 rfl rfl) h0
  obtain ⟨af, f, cf, rfl, hnf, huf, hfl⟩ := open_nums (hval 1 23 v1 rfl rfl) h1
  obtain ⟨ag, g, cg, rfl, hng, hug, hgl⟩ := open_nums (hval 2 23 v2 rfl rfl) h2
  obtain ⟨g1, hg1⟩ : ∃ g1, gs = [g1] := by
    obtain ⟨_, _, _, _, d, _, h, _⟩ := trodVars_one hV
    exact ⟨d, h⟩
  subst hg1
  have T := of_laid hL
  clear hA0 hV0 hval0
  have hlt : ∀ x ∈ (p0 ++ p1 ++ p2) ++ q, x.block < W.heap.size := fun x hx => hW'.lt x hx
  refine (law4_any _ ap ps cp af f cf ag g cg W T hok huf hug hpl hfl hgl hi hnf hng).mono fun e W' hend => ?_
  obtain ⟨he, hB⟩ := hend
  subst he
  refine ⟨_, rfl, _, _, _, [], p0 ++ (p1 ++ p2), q, hW', ?_, ?_, ?_, hB.frame _, fun h => by cases h⟩
  · exact trodAll_mk1 (shut_bool Efxg.underlying4 true)
  · exact trodAll_mk3 (Below.trod Efxg.laidOut (by kernel_rfl) (of_decide_eq_true (by kernel_rfl)) h0 hB (fun x hx => hlt x (by simp [hx]))) (Below.trod Efxg.laidOut (by kernel_rfl) (of_decide_eq_true (by kernel_rfl)) h1 hB (fun x hx => hlt x (by simp [hx]))) (Below.trod Efxg.laidOut (by kernel_rfl) (of_decide_eq_true (by kernel_rfl)) h2 hB (fun x hx => hlt x (by simp [hx])))
  · exact Below.trodVars Efxg.laidOut hB (by kernel_rfl) hV
end Go.Proofs.YoefxwFmt
