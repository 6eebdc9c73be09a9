/-
  WALKS: 'updateConstIndexes' (27) and its wrapper (13).
-/
import Derived.Test.YoefxwFmtWalkG
import Derived.Test.YoefxwFmtWalkH
import Derived.Test.YoefxwFmtWalkI
import Derived.Laws.CopyOwn
import Derived.Laws.BitsAllLaws
namespace Go.Proofs.YoefxwFmt
open Go.RowKit

theorem or_nat (x y : Nat) (h4 : y < 256) : y ||| (x * 256) = x * 256 + y := by
  rw [Nat.or_comm]
  exact nat_join 8 (x * 256) y (by omega) (by omega)
theorem or_bytes (x y : Int) (h1 : 0 ≤ x) (h2 : x ≤ 255) (h3 : 0 ≤ y) (h4 : y ≤ 255) : bits BinOp.or IntKind.i64 y (x * 256) = x * 256 + y := by
  obtain ⟨a, rfl⟩ := Int.eq_ofNat_of_zero_le h1
  obtain ⟨b, rfl⟩ := Int.eq_ofNat_of_zero_le h3
  have e : ((a : Int) * 256) = ((a * 256 : Nat) : Int) := by omega
  rw [e]
  have h : bits BinOp.or IntKind.i64 (b : Int) ((a * 256 : Nat) : Int) = IntKind.i64.wrap ((BitVec.ofInt 64 (b : Int) ||| BitVec.ofInt 64 ((a * 256 : Nat) : Int)).toNat : Int) := rfl
  rw [h, BitVec.toNat_or, ofInt_u64 b (by omega), ofInt_u64 (a * 256) (by omega), or_nat a b (by omega)]
  have hw : ∀ n : Int, 0 ≤ n → n ≤ 100000 → IntKind.i64.wrap n = n := by
    intro n h0 h1
    simp [IntKind.wrap, IntKind.bits, IntKind.signed]
    omega
  rw [hw _ (by omega) (by omega)]
  omega

/-- Block g's cells: the bytes, then whatever lies behind them. -/
def Row (w : World) (g : Nat) (xs : List Int) (R : List Value) : Prop := w.heap[g]? = some (.cells (xs.map (Value.int .u8) ++ R).toArray 5 (0, 0))

theorem Row.lt {w : World} {g : Nat} {xs : List Int} {R : List Value} (h : Row w g xs R) : g < w.heap.size := (Array.getElem?_eq_some_iff.1 h).1

theorem Row.cell {w : World} {g : Nat} {X E Y : List Int} {R : List Value} (h : Row w g (X ++ (E ++ Y)) R) {t : Nat} {e : Int} (he : E[t]? = some e) : w.cell? ⟨g, X.length + t, none⟩ = some (.int .u8 e) := by
  have ht : t < E.length := (List.getElem?_eq_some_iff.1 he).1
  rw [cell_of_row w g _ _ _ _ h]
  simp only [List.getElem?_toArray]
  rw [List.getElem?_append_left (by simp; omega), List.getElem?_map, List.getElem?_append_right (by omega), Nat.add_sub_cancel_left, List.getElem?_append_left ht, he]
  rfl

theorem Row.far {w w' : World} {g B : Nat} {xs : List Int} {R : List Value} (h : Row w g xs R) (hb : Below B w w') (hg : g < B) : Row w' g xs R := (hb.block g hg).trans h

theorem row_splice {X E E' Y : List Int} {R : List Value} (hl : E'.length = E.length) :
    splice ((X ++ (E ++ Y)).map (Value.int .u8) ++ R) X.length (E'.map (Value.int .u8)) = (X ++ (E' ++ Y)).map (Value.int .u8) ++ R := by
  unfold splice
  simp only [List.map_append, List.append_assoc, List.length_map]
  rw [List.take_append_of_le_length (by simp), List.take_of_length_le (by simp), List.drop_append, hl]
  rw [List.drop_of_length_le (by simp), List.nil_append, List.length_map, Nat.add_sub_cancel_left, List.drop_append]
  simp

/-- 'copy' as one step of a region that draws its order: the row's cells are known behind it, and nothing else has turned. -/
theorem step_copy_at {P : Program} {ops : Array Oper} {o : Oper} {a : Act} {w : World} {K : Act → World → Prop} {Q : Exit → Act → World → Prop} {E : Prop} (hgd : o.guard = none) (d s : Operand) (dT sT : TypeId)
    (ho : o.op = .call { callee := .builtin .copy, args := #[d, s], argTypes := #[dT, sT] }) (elem : TypeId) (hu : P.underlying dT = some (.slice elem)) (hsz : (P.info? elem).map (·.size) = some 1)
    (g off dLen dCap : Nat) (ad : Addr) (sLen sCap : Nat) (hd : a.eval d = .slice (some ⟨g, off, none⟩) dLen dCap) (hs : a.eval s = .slice (some ad) sLen sCap)
    (cur : List Value) (t : TypeId) (hg : w.heap[g]? = some (.cells cur.toArray t (0, 0))) (cs : List Value) (hn : cs.length = Nat.min sLen dLen)
    (hsrc : ∀ j v, cs[j]? = some v → w.cell? (ad.add j) = some v) (hfit : off + cs.length ≤ cur.length) (h1 : ∀ v ∈ cs, v.oneCell' = true)
    (h : ∀ w', Hid (w'.heap[g]? = some (.cells (splice cur off cs).toArray t (0, 0))) → w.grownBy w' (some g) → K (a.put o.dst (goInt cs.length)) w') :
    if Region.wanted o (yielded ops a.tmps) = true then Oper.wp P o a w K Q else E := by
  have hw : Region.wanted o (yielded ops a.tmps) = true := by simp [Region.wanted, hgd]
  rw [if_pos hw]
  have hrun := run_copy_row (P := P) w dT sT o.type elem g off dLen dCap ad sLen sCap cur.toArray t cs hu hsz hg hn hsrc (by simpa using hfit) h1
  unfold Oper.wp
  simp [execOp, ho, resolve, invoke, builtin, hd, hs, hrun, Result.andThen]
  exact h _ (show _ = _ by simpa [splice] using setRow_heap w g _ _ t _ hg) ⟨rfl, rfl, rfl, by simp, fun k _ hk => setRow_other w g k _ (fun e => hk (by simp [e]))⟩

theorem size5 : (Efxg.prog.info? 5).map (·.size) = some 1 := by kernel_rfl
end Go.Proofs.YoefxwFmt
