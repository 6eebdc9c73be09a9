/-
  WALKS: 'MakeInstruction' (23) at the four opcodes, over the table of operands' widths.
-/
import Derived.Test.YoefxwFmtWalkD
namespace Go.Proofs.YoefxwFmt
open Go.RowKit
theorem mk3 (w : World) : (Instr.makeSlice 30 (.int .i64 3) (.int .i64 3)).run Efxg.prog w = .ok (.slice (some ⟨w.heap.size, 0, none⟩) 3 3) (w.alloc (.cells #[.int .u8 0, .int .u8 0, .int .u8 0] 5)) := by kernel_rfl
theorem mk4 (w : World) : (Instr.makeSlice 30 (.int .i64 4) (.int .i64 4)).run Efxg.prog w = .ok (.slice (some ⟨w.heap.size, 0, none⟩) 4 4) (w.alloc (.cells #[.int .u8 0, .int .u8 0, .int .u8 0, .int .u8 0] 5)) := by kernel_rfl
theorem mk1 (w : World) : (Instr.makeSlice 30 (.int .i64 1) (.int .i64 1)).run Efxg.prog w = .ok (.slice (some ⟨w.heap.size, 0, none⟩) 1 1) (w.alloc (.cells #[.int .u8 0] 5)) := by kernel_rfl

/-- What the four rows of 'OpcodeOperands' that are met hold, all of it below block number N. -/
structure Tab (N : Nat) (w : World) : Prop where
  pos : 0 < N
  size : N ≤ w.heap.size
  r0 : ∃ b o, b < N ∧ w.cell? ⟨0, 0, none⟩ = some (.slice (some ⟨b, o, none⟩) 1 1) ∧ w.cell? ⟨b, o, none⟩ = some (.int .i64 2)
  r2 : ∃ ao c, w.cell? ⟨0, 2, none⟩ = some (.slice ao 0 c)
  r22 : ∃ b o, b < N ∧ w.cell? ⟨0, 22, none⟩ = some (.slice (some ⟨b, o, none⟩) 1 1) ∧ w.cell? ⟨b, o, none⟩ = some (.int .i64 2)
  r35 : ∃ b o, b < N ∧ w.cell? ⟨0, 35, none⟩ = some (.slice (some ⟨b, o, none⟩) 2 2) ∧ w.cell? ⟨b, o, none⟩ = some (.int .i64 2) ∧ w.cell? ⟨b, o + 1, none⟩ = some (.int .i64 1)

theorem Tab.below {N B : Nat} {w w' : World} (t : Tab N w) (hb : Below B w w') (hN : N ≤ B) : Tab N w' := by
  have h0 := t.pos
  refine ⟨t.pos, Nat.le_trans t.size hb.size, ?_, ?_, ?_, ?_⟩
  · obtain ⟨b, o, h1, h2, h3⟩ := t.r0
    exact ⟨b, o, h1, (hb.cell (p := ⟨0, 0, none⟩) (by show 0 < B; omega)).trans h2, (hb.cell (p := ⟨b, o, none⟩) (by show b < B; omega)).trans h3⟩
  · obtain ⟨ao, c, h2⟩ := t.r2
    exact ⟨ao, c, (hb.cell (p := ⟨0, 2, none⟩) (by show 0 < B; omega)).trans h2⟩
  · obtain ⟨b, o, h1, h2, h3⟩ := t.r22
    exact ⟨b, o, h1, (hb.cell (p := ⟨0, 22, none⟩) (by show 0 < B; omega)).trans h2, (hb.cell (p := ⟨b, o, none⟩) (by show b < B; omega)).trans h3⟩
  · obtain ⟨b, o, h1, h2, h3, h4⟩ := t.r35
    exact ⟨b, o, h1, (hb.cell (p := ⟨0, 35, none⟩) (by show 0 < B; omega)).trans h2, (hb.cell (p := ⟨b, o, none⟩) (by show b < B; omega)).trans h3, (hb.cell (p := ⟨b, o + 1, none⟩) (by show b < B; omega)).trans h4⟩

set_option maxHeartbeats 400000 in
theorem make_two (op : Int) (opn b o ga : Nat) (x : Int) (w : World) (hop : op = (opn : Int)) (hopn : opn < 42) (hx0 : 0 ≤ x) (hx1 : x ≤ 65535) (h0 : w.cell? ⟨0, opn, none⟩ = some (.slice (some ⟨b, o, none⟩) 1 1)) (h1 : w.cell? ⟨b, o, none⟩ = some (.int .i64 2)) (hb : b < w.heap.size)
    (hga : w.cell? ⟨ga, 0, none⟩ = some (.int .i64 x)) (hgl : ga < w.heap.size) :
    Calls Efxg.prog 23 #[.int .u8 op, .slice (some ⟨ga, 0, none⟩) 1 1] w fun e w' => e = .returned (.slice (some ⟨w.heap.size, 0, none⟩) 3 3) ∧ w' = w.alloc (.cells #[.int .u8 op, .int .u8 (x / 256), .int .u8 (x % 256)] 5) := by
  subst hop
  have hm := mk3
  have hoi : (opn : Int) < 42 := by omega
  go_enter Efxg.func23, Efxg.ntmps23
  go_wp2
  refine wp_loop_rounds 2 ?_
  rw [rounds_succ]
  go_wp2
  rw [rounds_succ]
  go_wp2
  refine wp_loop_rounds 2 ?_
  rw [rounds_succ]
  go_wp2
  rw [rounds_succ]
  go_wp2
  go_ret
  exact ⟨rfl, rfl⟩

set_option maxHeartbeats 400000 in
theorem make_35 (N ga : Nat) (x f : Int) (w : World) (t : Tab N w) (hx0 : 0 ≤ x) (hx1 : x ≤ 65535) (hf0 : 0 ≤ f) (hf1 : f ≤ 255)
    (hga : w.cell? ⟨ga, 0, none⟩ = some (.int .i64 x)) (hga1 : w.cell? ⟨ga, 1, none⟩ = some (.int .i64 f)) (hgl : ga < w.heap.size) :
    Calls Efxg.prog 23 #[.int .u8 35, .slice (some ⟨ga, 0, none⟩) 2 2] w fun e w' => e = .returned (.slice (some ⟨w.heap.size, 0, none⟩) 4 4) ∧ w' = w.alloc (.cells #[.int .u8 35, .int .u8 (x / 256), .int .u8 (x % 256), .int .u8 f] 5) := by
  obtain ⟨b, o, hb, h0, h1, h2⟩ := t.r35
  have hs := t.size
  have hbs : b < w.heap.size := by omega
  clear t
  have hm := mk4
  go_enter Efxg.func23, Efxg.ntmps23
  go_wp2
  refine wp_loop_rounds 3 ?_
  rw [rounds_succ]
  go_wp2
  rw [rounds_succ]
  go_wp2
  rw [rounds_succ]
  go_wp2
  refine wp_loop_rounds 3 ?_
  rw [rounds_succ]
  go_wp2
  rw [rounds_succ]
  go_wp2
  rw [rounds_succ]
  go_wp2
  go_ret
  exact ⟨rfl, rfl⟩

set_option maxHeartbeats 400000 in
theorem make_2 (N : Nat) (w : World) (t : Tab N w) :
    Calls Efxg.prog 23 #[.int .u8 2, .slice none 0 0] w fun e w' => e = .returned (.slice (some ⟨w.heap.size, 0, none⟩) 1 1) ∧ w' = w.alloc (.cells #[.int .u8 2] 5) := by
  obtain ⟨ao, c, h0⟩ := t.r2
  clear t
  have hm := mk1
  go_enter Efxg.func23, Efxg.ntmps23
  go_wp2
  refine wp_loop_rounds 1 ?_
  rw [rounds_succ]
  go_wp2
  refine wp_loop_rounds 1 ?_
  rw [rounds_succ]
  go_wp2
  go_ret
  exact ⟨rfl, rfl⟩

theorem make_0 (N ga : Nat) (x : Int) (w : World) (t : Tab N w) (hx0 : 0 ≤ x) (hx1 : x ≤ 65535) (hga : w.cell? ⟨ga, 0, none⟩ = some (.int .i64 x)) (hgl : ga < w.heap.size) :
    Calls Efxg.prog 23 #[.int .u8 0, .slice (some ⟨ga, 0, none⟩) 1 1] w fun e w' => e = .returned (.slice (some ⟨w.heap.size, 0, none⟩) 3 3) ∧ w' = w.alloc (.cells #[.int .u8 0, .int .u8 (x / 256), .int .u8 (x % 256)] 5) := by
  obtain ⟨b, o, hb, h0, h1⟩ := t.r0
  exact make_two 0 0 b o ga x w rfl (by omega) hx0 hx1 h0 h1 (Nat.lt_of_lt_of_le hb t.size) hga hgl

theorem make_22 (N ga : Nat) (x : Int) (w : World) (t : Tab N w) (hx0 : 0 ≤ x) (hx1 : x ≤ 65535) (hga : w.cell? ⟨ga, 0, none⟩ = some (.int .i64 x)) (hgl : ga < w.heap.size) :
    Calls Efxg.prog 23 #[.int .u8 22, .slice (some ⟨ga, 0, none⟩) 1 1] w fun e w' => e = .returned (.slice (some ⟨w.heap.size, 0, none⟩) 3 3) ∧ w' = w.alloc (.cells #[.int .u8 22, .int .u8 (x / 256), .int .u8 (x % 256)] 5) := by
  obtain ⟨b, o, hb, h0, h1⟩ := t.r22
  exact make_two 22 22 b o ga x w rfl (by omega) hx0 hx1 h0 h1 (Nat.lt_of_lt_of_le hb t.size) hga hgl

end Go.Proofs.YoefxwFmt
