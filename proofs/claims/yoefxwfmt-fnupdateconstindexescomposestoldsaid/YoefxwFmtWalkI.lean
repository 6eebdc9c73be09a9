import Derived.Test.YoefxwFmtWalkF
import Derived.Deep.RegionHeld3
import Derived.StillTactics
import Derived.Laws.Pointers
import Derived.KernelRfl
namespace Go.Proofs.YoefxwFmt
open Go.RowKit

theorem nil_lies {gg H : Nat} (h : (Value.slice none 0 0).ownBlock = some gg ∨ gg = H) : gg = H := by
  rcases h with h | h
  · simp [Value.ownBlock] at h
  · exact h

set_option maxRecDepth 100000 in
set_option maxHeartbeats 3200000 in
theorem ro_2 (b o g p n c : Nat) (x y : Int) (w : World) (h1 : w.cell? ⟨b, o, none⟩ = some (.int .i64 2))
    (hn : 2 ≤ n) (hg0 : w.cell? ⟨g, p, none⟩ = some (.int .u8 x)) (hg1 : w.cell? ⟨g, p + 1, none⟩ = some (.int .u8 y)) :
    Calls Efxg.prog 30 #[.slice (some ⟨b, o, none⟩) 1 1, .slice (some ⟨g, p, none⟩) n c] w fun e w' => (∃ v, e = .returned (.tuple #[v, .int .i64 2])) ∧ Below w.heap.size w w' := by
  obtain ⟨i0, hi, hz0, hz1, hz2⟩ := info_parts Efxg.info3
  have lg := World.block_lt_of_cell? w _ hg0
  have hn0 : (0 : Int) < (n : Int) := by omega
  have hn1 : (1 : Int) < (n : Int) := by omega
  have hn2 : 0 < n := by omega
  have hn3 : 1 < n := by omega
  have hw1 : IntKind.i64.wrap 1 = 1 := by decide
  have hw2 : IntKind.i64.wrap (0 + 1) = 1 := by decide
  go_enter Efxg.func30, Efxg.ntmps30
  go_wp2
  refine wp_loop_rounds 2 ?_
  rw [rounds_succ]
  go_wp2_with fail
  go_region_held3 (fun w' => w'.cell? ⟨g, p, none⟩ = some (.int .u8 x) ∧ w'.cell? ⟨g, p + 1, none⟩ = some (.int .u8 y)) (first | go_keep | exact ⟨(hgrow.cell_far ⟨g, p, none⟩ (by simp; omega) (by simp [Value.ownBlock])).trans (by simpa using cell_later ((Below.refl _ w).alloc (Nat.le_refl _) _) hg0), (hgrow.cell_far ⟨g, p + 1, none⟩ (by simp; omega) (by simp [Value.ownBlock])).trans (by simpa using cell_later ((Below.refl _ w).alloc (Nat.le_refl _) _) hg1)⟩)
    ((refine step_append_lies _ (by rfl) _ _ _ (by rfl) w.heap.size 3 i0 _ 1 8 Efxg.underlying45 hi hz0 hz1 hz2 rfl (by omega) (.slice none 0 0) 0 [] (by rfl) (World.ownsRow_nil _ _ _ _)
        ⟨w.heap.size, 0, none⟩ 1 1 [_] (by rfl) (by rfl) (World.news_of_block (cs := #[_]) (t := 3) (fr := (0, 0)) (heap_alloc_new w _)) (by simp [Value.oneCell']) (by omega) (by decide) (by decide) (by simp) (w.heap.size + 1) (by simp) ?_; intro gg cap w1 hown1 hgrow hat hlt))
  have R : Below w.heap.size w w1 := (((Below.refl _ w).alloc (Nat.le_refl _) _).drew).grown hgrow (by simp) (fun k hk => by simp [Value.ownBlock] at hk)
  clear hown1 hgrow hat hlt
  go_wp2
  rw [rounds_succ]
  go_wp2
  go_ret2
  exact ⟨⟨_, rfl⟩, R⟩

set_option maxRecDepth 100000 in
set_option maxHeartbeats 3200000 in
theorem ro_21 (b o g p n c : Nat) (x y f : Int) (w : World) (h1 : w.cell? ⟨b, o, none⟩ = some (.int .i64 2))
    (h2 : w.cell? ⟨b, o + 1, none⟩ = some (.int .i64 1)) (hf0 : 0 ≤ f) (hf1 : f ≤ 255) (hn : 3 ≤ n) (hg0 : w.cell? ⟨g, p, none⟩ = some (.int .u8 x)) (hg1 : w.cell? ⟨g, p + 1, none⟩ = some (.int .u8 y)) (hg2 : w.cell? ⟨g, p + 2, none⟩ = some (.int .u8 f)) :
    Calls Efxg.prog 30 #[.slice (some ⟨b, o, none⟩) 2 2, .slice (some ⟨g, p, none⟩) n c] w fun e w' => (∃ v, e = .returned (.tuple #[v, .int .i64 3])) ∧ Below w.heap.size w w' := by
  obtain ⟨i0, hi, hz0, hz1, hz2⟩ := info_parts Efxg.info3
  have lg := World.block_lt_of_cell? w _ hg0
  have hn0 : (0 : Int) < (n : Int) := by omega
  have hn1 : (1 : Int) < (n : Int) := by omega
  have hn2 : 0 < n := by omega
  have hn3 : 1 < n := by omega
  have hw1 : IntKind.i64.wrap 1 = 1 := by decide
  have hw2 : IntKind.i64.wrap (0 + 1) = 1 := by decide
  go_enter Efxg.func30, Efxg.ntmps30
  go_wp2
  refine wp_loop_rounds 3 ?_
  rw [rounds_succ]
  go_wp2_with fail
  go_region_held3 (fun w' => w'.cell? ⟨g, p, none⟩ = some (.int .u8 x) ∧ w'.cell? ⟨g, p + 1, none⟩ = some (.int .u8 y)) (first | go_keep | exact ⟨(hgrow.cell_far ⟨g, p, none⟩ (by simp; omega) (by simp [Value.ownBlock])).trans (by simpa using cell_later ((Below.refl _ w).alloc (Nat.le_refl _) _) hg0), (hgrow.cell_far ⟨g, p + 1, none⟩ (by simp; omega) (by simp [Value.ownBlock])).trans (by simpa using cell_later ((Below.refl _ w).alloc (Nat.le_refl _) _) hg1)⟩)
    ((refine step_append_lies _ (by rfl) _ _ _ (by rfl) w.heap.size 3 i0 _ 1 8 Efxg.underlying45 hi hz0 hz1 hz2 rfl (by omega) (.slice none 0 0) 0 [] (by rfl) (World.ownsRow_nil _ _ _ _)
        ⟨w.heap.size, 0, none⟩ 1 1 [_] (by rfl) (by rfl) (World.news_of_block (cs := #[_]) (t := 3) (fr := (0, 0)) (heap_alloc_new w _)) (by simp [Value.oneCell']) (by omega) (by decide) (by decide) (by simp) (w.heap.size + 1) (by simp) ?_; intro gg cap w1 hown1 hgrow hat hlt))
  have R : Below w.heap.size w w1 := (((Below.refl _ w).alloc (Nat.le_refl _) _).drew).grown hgrow (by simp) (fun k hk => by simp [Value.ownBlock] at hk)
  have lb := World.block_lt_of_cell? w _ h2
  have k2 : w1.cell? ⟨b, o + 1, none⟩ = some (.int .i64 1) := (R.cell (p := ⟨b, o + 1, none⟩) lb).trans h2
  have kg : w1.cell? ⟨g, p + 2, none⟩ = some (.int .u8 f) := (R.cell (p := ⟨g, p + 2, none⟩) lg).trans hg2
  have hbs := R.size
  have hgg : w.heap.size ≤ gg := by have := nil_lies hat; omega
  have lb1 : b < w1.heap.size := Nat.lt_of_lt_of_le lb hbs
  have lg1 : g < w1.heap.size := Nat.lt_of_lt_of_le lg hbs
  have hn4 : (2 : Int) < (n : Int) := by omega
  obtain ⟨u, hu⟩ : ∃ u, w1.ownsRow w.heap.size 3 1 (.slice (some ⟨gg, 0, none⟩) 1 cap) 1 [u] := ⟨_, hown1⟩
  have HO : Hid (w1.ownsRow w.heap.size 3 1 (.slice (some ⟨gg, 0, none⟩) 1 cap) 1 [u]) := hu
  clear hgrow hat hg0 hg1 h1 hw1 hw2 hown1 hu
  go_wp2
  rw [rounds_succ]
  go_wp2_with (at_builtin; refine wpList_append_lies _ rfl _ _ 45 rfl w.heap.size 3 i0 (.int .i64 0) 1 8 Efxg.underlying45 hi hz0 hz1 hz2 rfl (by decide) _ _ _ rfl (HO.out.alloc _) ⟨w1.heap.size, 0, none⟩ 1 1 [.int .i64 f] rfl rfl (cell_one_new _ _ _) (ints_oneCell .i64 [f]) (by decide) (by decide) (by decide) (by simp; omega) (w1.heap.size + 1) (by simp) ?_; intro g2 cap2 w2 hown2 hgrow2 hat2 hlt2)
  have R2 : Below w.heap.size w w2 := (R.alloc hbs _).grown hgrow2 (by simp; omega) (fun k hk => by cases hk; exact hgg)
  clear hown2 hgrow2 hat2 hlt2
  rw [rounds_succ]
  go_wp2
  go_ret2
  exact ⟨⟨_, rfl⟩, R2⟩

set_option maxHeartbeats 400000 in
theorem ro_0 (ao : Option Addr) (c : Nat) (v : Value) (w : World) :
    Calls Efxg.prog 30 #[.slice ao 0 c, v] w fun e w' => (∃ v, e = .returned (.tuple #[v, .int .i64 0])) ∧ Below w.heap.size w w' := by
  go_enter Efxg.func30, Efxg.ntmps30
  go_wp2
  refine wp_loop_rounds 1 ?_
  rw [rounds_succ]
  go_wp2
  go_ret2
  exact ⟨⟨_, rfl⟩, Below.refl _ _⟩
end Go.Proofs.YoefxwFmt
