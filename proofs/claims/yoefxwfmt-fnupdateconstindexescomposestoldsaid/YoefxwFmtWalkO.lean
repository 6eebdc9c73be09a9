import Derived.Test.YoefxwFmtWalkM
import Derived.Test.YoefxwFmtTie
import Derived.Test.YoefxwFmtCards
import Derived.ProofKit
import Derived.LaidMore
import Derived.OpenShut
import Derived.OpenVars
import Derived.Deep.Slices
import Derived.Deep.Strs
import Derived.Stop.Joined
import Derived.Stop.JoinedTold
import Derived.Deep.DeepWitnessRef
import Derived.SevenTiedAt
namespace Go.Proofs.YoefxwFmt
open Go.ChangeShapes Go.WideShapes Go.ChangeAt Go.WideMaps Go.WideElems Go.RowKit

theorem gO : Efxg.prog.globalNamed (Rows.fnUpdateConstIndexesMatchesRebuiltProgramSpec.vars.headD "") = some 0 := by kernel_rfl
theorem gOType : (Efxg.prog.globals[0]?).map (·.type) = some 95 := by kernel_rfl
theorem cells3 : Efxg.prog.cellsOf 3 = 1 := by kernel_rfl
theorem cells5 : Efxg.prog.cellsOf 5 = 1 := by kernel_rfl
theorem cells35 : Efxg.prog.cellsOf 35 = 1 := by kernel_rfl
theorem cells45 : Efxg.prog.cellsOf 45 = 1 := by kernel_rfl
theorem cells69 : Efxg.prog.cellsOf 69 = 3 := by kernel_rfl

theorem lits_inj {k : IntKind} : ∀ {xs ys : List Int}, (lits (H := Unit) k xs) = ys.map (fun n => .lit (.int k n)) → xs = ys
  | [], [], _ => rfl
  | [], _ :: _, h => by simp [lits] at h
  | _ :: _, [], h => by simp [lits] at h
  | x :: xs, y :: ys, h => by
    simp only [lits, List.map_cons, List.cons.injEq, DataW.lit.injEq, Lit.int.injEq, true_and] at h
    rw [h.1, lits_inj (k := k) h.2]

/-- One row of the table: the slice's numbers, at its address. -/
theorem row_of {W : World} {fuel : Nat} {c : Value} {ys : List Int} {p : List MemPlace}
    (h : DataW.trod (fun _ => ()) Efxg.prog W 0 (fun _ => true) false fuel 45 [c] = some (.slice (ys.map fun n => .lit (.int .i64 n)) [], p)) :
    ∃ a, c = .slice (some a) ys.length ys.length ∧ ∀ i, i < ys.length → W.cell? (a.add i) = some (.int .i64 (ys.getD i 0)) := by
  rcases open_ints Efxg.underlying45 Efxg.underlying3 cells3 h with ⟨_, hx⟩ | ⟨a, len, cap, zs, hcs, _, hl, hm, hz, hx, hcell, _⟩
  · simp at hx
  · simp only [Prod.mk.injEq, DataW.slice.injEq] at hx
    obtain ⟨⟨h1, h2⟩, _⟩ := hx
    have e1 := lits_inj h1.symm
    have e2 : zs.drop len = [] := by
      have h3 := h2.symm
      simp only [lits, List.map_eq_nil_iff] at h3
      exact h3
    have e3 : zs = ys := by have h4 := List.take_append_drop len zs; rw [e2, List.append_nil, e1] at h4; exact h4.symm
    subst e3
    have hzl : zs.length = cap := by simpa using hz
    have hle : zs.length ≤ len := by have := congrArg List.length e2; simp at this; omega
    have hlen : len = zs.length := by omega
    subst hlen
    rw [List.cons.injEq] at hcs
    refine ⟨a, ?_, hcell⟩
    rw [hcs.1, ← hzl]

theorem addr_lit {W : World} {a : Addr} {v : Value} (h : W.cell? (a.add 0) = some v) : ∃ b o, a = ⟨b, o, none⟩ ∧ b < W.heap.size := by
  obtain ⟨b, off, spot⟩ := a
  have hspot : spot = none := by simpa [Addr.add] using World.cell?_spot h
  subst hspot
  exact ⟨b, off, rfl, by simpa [Addr.add] using block_lt_of_cell h⟩

def tabL : List (DataW Unit) := match (Rows.laid_github_com_d5_tengo_v2_parser_OpcodeOperands (H := Unit)) with
  | .agg l => l
  | _ => []

/-- What the listed variable gives the walks. -/
theorem of_laid {W : World} (h : laidMetH Efxg.prog Rows.fnUpdateConstIndexesMatchesRebuiltProgramRow.laid W) : Tab W.heap.size W := by
  rw [MakeChecks.laidMetH_plain _ _ _ (by kernel_rfl)] at h
  obtain ⟨ps, ⟨g, t, cs, fuel, p, q, hg, ht, hv, hd, _, _⟩, _, _⟩ := h
  obtain rfl := Option.some.inj (gO.symm.trans hg)
  obtain rfl := Option.some.inj (gOType.symm.trans ht)
  obtain ⟨xs, m, rfl, hx, hlen, hn, hel⟩ := DataW.trod_array Efxg.underlying95 hd
  have hl42 : cs.toList.length = 42 := by rw [hlen]; kernel_rfl
  have hx1 : tabL = xs.map (·.1) := by
    have := congrArg Prod.fst hx
    simp only [Rows.laid_github_com_d5_tengo_v2_parser_OpcodeOperands, DataW.agg.injEq] at this
    exact this
  have key : ∀ i (ys : List Int), i < 42 → tabL[i]? = some (.slice (ys.map fun n => .lit (.int .i64 n)) []) → ∃ a, W.cell? ⟨0, i, none⟩ = some (.slice (some a) ys.length ys.length) ∧ ∀ j, j < ys.length → W.cell? (a.add j) = some (.int .i64 (ys.getD j 0)) := by
    intro i ys hi hy
    have h1 := hel i hi
    rw [cells45, Nat.mul_one] at h1
    rw [hx1, List.getElem?_map] at hy
    obtain ⟨y, hy1, hy2⟩ := Option.map_eq_some_iff.1 hy
    rw [hy1] at h1
    have hc : i < cs.toList.length := by omega
    have e : (cs.toList.drop i).take 1 = [cs.toList[i]] := by
      rw [List.drop_eq_getElem_cons hc]; rfl
    rw [e] at h1
    have h2 : y = (.slice (ys.map fun n => .lit (.int .i64 n)) [], y.2) := by rw [← hy2]
    rw [h2] at h1
    obtain ⟨a, ha, hcell⟩ := row_of h1
    refine ⟨a, ?_, hcell⟩
    have hcl := World.var?_cell hg hv i
    rw [hcl, ← ha]
    rw [← Array.getElem?_toList]
    exact List.getElem?_eq_getElem hc
  obtain ⟨a0, h0, k0⟩ := key 0 [2] (by decide) rfl
  obtain ⟨a2, h2, _⟩ := key 2 [] (by decide) rfl
  obtain ⟨a22, h22, k22⟩ := key 22 [2] (by decide) rfl
  obtain ⟨a35, h35, k35⟩ := key 35 [2, 1] (by decide) rfl
  obtain ⟨b0, o0, rfl, l0⟩ := addr_lit (k0 0 (by decide))
  obtain ⟨b22, o22, rfl, l22⟩ := addr_lit (k22 0 (by decide))
  obtain ⟨b35, o35, rfl, l35⟩ := addr_lit (k35 0 (by decide))
  exact ⟨block_lt_of_cell h0, Nat.le_refl _, ⟨b0, o0, l0, h0, k0 0 (by decide)⟩, ⟨_, _, h2⟩, ⟨b22, o22, l22, h22, k22 0 (by decide)⟩, ⟨b35, o35, l35, h35, k35 0 (by decide), k35 1 (by decide)⟩⟩

set_option maxRecDepth 100000 in
theorem open_nums {H : Type} {enc : TypeId × Value → H} {W : World} {base : Nat} {v : Value} {d : DataW H} {p : List MemPlace} (hok : Value.okWide Efxg.prog W .any base 23 v) (h : DataW.Trod enc Efxg.prog W 0 (fun _ => true) true 23 v d p) :
    ∃ ao xs cap, v = .slice ao xs.length cap ∧ Nums W .u16 ao xs ∧ U16 xs ∧ xs.length ≤ maxLen := by
  obtain ⟨a0, len, cap, rfl⟩ := okWide_slice Efxg.underlying23 hok
  obtain ⟨fuel, hf⟩ := h
  rcases open_ints Efxg.underlying23 Efxg.underlying35 cells35 hf with ⟨hcs, _⟩ | ⟨a, len', cap', zs, hcs, _, hl, hm, hz, _, hcell, hwz⟩
  · have e : Value.slice a0 len cap = .slice none 0 0 := by simpa [Value.cells] using hcs
    cases e
    exact ⟨none, [], 0, rfl, fun k x hx => by simp at hx, fun x hx => by simp at hx, Nat.zero_le _⟩
  · have e : Value.slice a0 len cap = .slice (some a) len' cap' := by simpa [Value.cells] using hcs
    cases e
    have hzl : zs.length = cap := by simpa using hz
    have hlen : (zs.take len).length = len := by rw [List.length_take]; omega
    refine ⟨some a, zs.take len, cap, by rw [hlen], ?_, ?_, by omega⟩
    · intro k x hx
      have hk : k < len := by have := (List.getElem?_eq_some_iff.1 hx).1; omega
      obtain ⟨b, o, rfl, hc⟩ := ints_at hcell (by omega)
      refine ⟨b, o, rfl, ?_⟩
      rw [hc k (by omega)]
      rw [List.getElem?_take, if_pos hk] at hx
      rw [List.getD_eq_getElem?_getD, hx]
      rfl
    · intro x hx
      have := hwz x (List.mem_of_mem_take hx)
      simp [Lit.wf, IntKind.min, IntKind.max, IntKind.signed, IntKind.bits] at this
      omega

set_option maxRecDepth 100000 in
theorem open_inss {H : Type} {enc : TypeId × Value → H} {W : World} {base : Nat} {v : Value} {d : DataW H} {p : List MemPlace} (hok : Value.okWide Efxg.prog W .any base 22 v) (h : DataW.Trod enc Efxg.prog W 0 (fun _ => true) true 22 v d p) :
    ∃ ao ps cap, v = .slice ao (List.length ps) cap ∧ Ins W ao ps ∧ (∀ z ∈ ps, z.Ok) ∧ ps.length ≤ maxLen := by
  obtain ⟨a0, len, cap, rfl⟩ := okWide_slice Efxg.underlying22 hok
  obtain ⟨fuel, hf⟩ := h
  rcases Deep.open_slice Efxg.underlying22 hf with ⟨hcs, _⟩ | ⟨a, len', cap', m, n, D, Pl, hcs, _, hl, hm, hmm, _, hel⟩
  · have e : Value.slice a0 len cap = .slice none 0 0 := by simpa [Value.cells] using hcs
    cases e
    exact ⟨none, [], 0, rfl, fun k x hx => by simp at hx, fun x hx => by simp at hx, Nat.zero_le _⟩
  · have e : Value.slice a0 len cap = .slice (some a) len' cap' := by simpa [Value.cells] using hcs
    cases e
    have hmc : m = cap := by simpa using hmm
    have one : ∀ i, i < len → ∃ z : Zi, z.Ok ∧ W.cell? (a.add (i * 3)) = some (.int .u8 z.k) ∧ W.cell? (a.add (i * 3 + 1)) = some (.int .u16 z.i) ∧ W.cell? (a.add (i * 3 + 2)) = some (.int .u8 z.f) := by
      intro i hi
      obtain ⟨cs', hc, hd⟩ := hel i (by omega)
      rw [cells69] at hc
      obtain ⟨y0, y1, y2, n', _, hlen, g0, g1, g2⟩ := Deep.trod_struct3 Efxg.underlying69 hd
      rw [cells69] at hlen
      match cs', hlen with
      | [c0, c1, c2], _ =>
        simp only [cells5, cells35, List.drop_zero, List.drop_succ_cons, List.take_succ_cons, List.take_zero] at g0 g1 g2
        obtain ⟨k, e0, _, w0⟩ := DataW.trod_int Efxg.underlying5 g0
        obtain ⟨x, e1, _, w1⟩ := DataW.trod_int Efxg.underlying35 g1
        obtain ⟨f, e2, _, w2⟩ := DataW.trod_int Efxg.underlying5 g2
        simp only [List.cons.injEq, and_true] at e0 e1 e2
        subst e0 e1 e2
        simp [Lit.wf, IntKind.min, IntKind.max, IntKind.signed, IntKind.bits] at w0 w1 w2
        obtain ⟨_, _, hcell⟩ := World.cells?_some hc
        have q0 := hcell 0 (by decide)
        have q1 := hcell 1 (by decide)
        have q2 := hcell 2 (by decide)
        rw [Deep.add_add] at q0 q1 q2
        exact ⟨⟨k, x, f⟩, ⟨w0.1, w0.2, w1.1, w1.2, w2.1, w2.2⟩, q0, q1, q2⟩
    obtain ⟨f, hf2⟩ := @Deep.choose_lt Zi ⟨⟨0, 0, 0⟩⟩ len (fun i z => z.Ok ∧ W.cell? (a.add (i * 3)) = some (.int .u8 z.k) ∧ W.cell? (a.add (i * 3 + 1)) = some (.int .u16 z.i) ∧ W.cell? (a.add (i * 3 + 2)) = some (.int .u8 z.f)) one
    have hlen : ((List.range len).map f).length = len := by simp
    refine ⟨some a, (List.range len).map f, cap, by rw [hlen], ?_, ?_, by rw [hlen]; omega⟩
    · intro k z hz
      have hk : k < len := by have := (List.getElem?_eq_some_iff.1 hz).1; omega
      have hfz : f k = z := by simpa [hk] using hz
      have h0 := (hf2 0 (by omega)).2.1
      rw [Nat.zero_mul] at h0
      obtain ⟨b, o, rfl, _⟩ := addr_lit h0
      obtain ⟨_, h1, h2, h3⟩ := hf2 k hk
      rw [add_plain] at h1 h2 h3
      rw [hfz] at h1 h2 h3
      exact ⟨b, o, rfl, h1, h2, h3⟩
    · intro z hz
      obtain ⟨k, hk, rfl⟩ := List.mem_map.1 hz
      exact (hf2 k (by simpa using hk)).1
end Go.Proofs.YoefxwFmt
