/-
  WALKS: 'updateConstIndexes' (27): one walk for each kind of instruction.
-/
import Derived.Test.YoefxwFmtWalkJ
namespace Go.Proofs.YoefxwFmt
open Go.RowKit

/-- The loop's state behind j instructions. -/
def UpAt (g : Nat) (ps : List Zi) (to : List Int) (R : List Value) (w wr : World) (j : Nat) : Prop :=
  Row wr g (asmL ((ps.take j).map (mapI to)) ++ asmL (ps.drop j)) R ∧ w.grownBy wr (some g)

theorem asm_len_map (to : List Int) : ∀ ps : List Zi, (asmL (ps.map (mapI to))).length = (asmL ps).length
  | [] => rfl
  | z :: ps => by
    rw [List.map_cons, asmL_cons, asmL_cons, List.length_append, List.length_append, asm_len_map to ps]
    have e : (enc1 (mapI to z)).length = (enc1 z).length := by
      unfold enc1; rw [mapI_k, mapI_f]
      split <;> (try split) <;> (try split) <;> simp
    rw [e]

/-- What a round meets: the bytes in front, the instruction's own, those behind. -/
theorem up_open {g : Nat} {ps : List Zi} {to : List Int} {R : List Value} {w wr : World} {j : Nat} {z : Zi} (h : UpAt g ps to R w wr j) (hz : ps[j]? = some z) :
    ∃ X Y, Row wr g (X ++ (enc1 z ++ Y)) R ∧ X.length = (asmL (ps.take j)).length ∧ X = asmL ((ps.take j).map (mapI to)) ∧ Y = asmL (ps.drop (j + 1)) := by
  refine ⟨_, _, ?_, asm_len_map to _, rfl, rfl⟩
  have hd : ps.drop j = z :: ps.drop (j + 1) := by
    have hlt := (List.getElem?_eq_some_iff.1 hz).1
    rw [List.drop_eq_getElem_cons hlt]
    congr 1
    have := List.getElem?_eq_getElem hlt
    rw [hz] at this
    exact (Option.some.inj this).symm
  have h1 := h.1
  rw [hd, asmL_cons] at h1
  exact h1

theorem up_round {g n p : Nat} {ps : List Zi} {to : List Int} {R : List Value} {w wr : World} {j : Nat} {z : Zi} (h : UpAt g ps to R w wr j) (hz : ps[j]? = some z) (hn : n = (asmL ps).length) (hp : p = (asmL (ps.take j)).length) :
    ∃ X Y, Row wr g (X ++ (enc1 z ++ Y)) R ∧ X.length = p ∧ p + (enc1 z).length ≤ n ∧ (∀ t e, (enc1 z)[t]? = some e → wr.cell? ⟨g, p + t, none⟩ = some (.int .u8 e)) ∧
      (∀ wr', Row wr' g (X ++ (enc1 (mapI to z) ++ Y)) R → w.grownBy wr' (some g) → UpAt g ps to R w wr' (j + 1)) ∧ p + (enc1 z).length = (asmL (ps.take (j + 1))).length := by
  obtain ⟨X, Y, h1, h2, h3, h4⟩ := up_open h hz
  have e1 : (asmL (ps.take (j + 1))).length = p + (enc1 z).length := by rw [asm_step hz, List.length_append, hp]
  have hXp : X.length = p := h2.trans hp.symm
  refine ⟨X, Y, h1, hXp, ?_, ?_, ?_, e1.symm⟩
  · rw [← e1, hn]
    have e2 : asmL ps = asmL (ps.take (j + 1)) ++ asmL (ps.drop (j + 1)) := by rw [← asmL_append, List.take_append_drop]
    rw [e2, List.length_append]
    omega
  · intro t e he
    rw [← hXp]
    exact h1.cell he
  · intro wr' hr hg
    refine ⟨?_, hg⟩
    rw [asm_stepM hz, ← h3, ← h4, List.append_assoc]
    exact hr

theorem look_at {w : World} {b : Nat} {to : List Int} (h : MapIs w b to) (htl : to.length ≤ 65536) {i : Int} (h0 : 0 ≤ i) (h1 : i < (to.length : Int)) (nq : Nat) :
    (Instr.lookup 28 (.map (some b)) (.int .i64 i) true).run Efxg.prog (w.drewN nq) = .ok (.tuple #[.int .i64 (to.getD i.toNat 0), .bool true]) (w.drewN nq) := by
  have h2 : MapIs (w.drewN nq) b to := h.below (below_drewN (Below.refl w.heap.size w) nq) h.lt
  have h3 := h2.look (j := i.toNat) (by omega) htl
  rw [Int.toNat_of_nonneg h0] at h3
  exact h3

/-- The 'copy' of a round: the instruction that was just made, over the old one. -/
theorem step_copy_ins {ops : Array Oper} {o : Oper} {a : Act} {W : World} {K : Act → World → Prop} {Q : Exit → Act → World → Prop} {E0 : Prop} (hgd : o.guard = none) (d s : Operand)
    (ho : o.op = .call { callee := .builtin .copy, args := #[d, s], argTypes := #[30, 30] })
    (w2 : World) (O : Obj) (g p n cap m : Nat) (X E E' Y : List Int) (R : List Value) (hrow : Row w2 g (X ++ (E ++ Y)) R) (hX : X.length = p) (hm : m = E'.length) (hE : E'.length = E.length) (hn : p + E.length ≤ n)
    (hW : W.heap = ((w2.alloc O).alloc (.cells (E'.map (Value.int .u8)).toArray 5)).heap) (h1 : W.os = w2.os) (h2 : W.tape = w2.tape) (h3 : W.output = w2.output)
    (hd : a.eval d = .slice (some ⟨g, p, none⟩) (n - p) (cap - p)) (hs : a.eval s = .slice (some ⟨w2.heap.size + 1, 0, none⟩) m m)
    (h : ∀ w', Hid (Row w' g (X ++ (E' ++ Y)) R) → Hid (w2.grownBy w' (some g)) → K (a.put o.dst (goInt m)) w') :
    if Region.wanted o (yielded ops a.tmps) = true then Oper.wp Efxg.prog o a W K Q else E0 := by
  subst hm
  have hlt := hrow.lt
  have hold : ∀ k, k < w2.heap.size → W.heap[k]? = w2.heap[k]? := fun k hk => by
    rw [hW, heap_alloc_old _ _ (by simp; omega), heap_alloc_old _ _ hk]
  have hgW : W.heap[g]? = some (.cells ((X ++ (E ++ Y)).map (Value.int .u8) ++ R).toArray 5 (0, 0)) := (hold g hlt).trans hrow
  have hsW : W.heap[w2.heap.size + 1]? = some (.cells (E'.map (Value.int .u8)).toArray 5 (0, 0)) := by rw [hW]; exact heap_alloc2_new w2 O _
  have hlen : (E'.map (Value.int .u8)).length = Nat.min E'.length (n - p) := by
    rw [List.length_map]; exact (Nat.min_eq_left (by omega)).symm
  refine step_copy_at hgd d s 30 30 ho 5 Efxg.underlying30 size5 g p (n - p) (cap - p) ⟨w2.heap.size + 1, 0, none⟩ E'.length E'.length hd hs _ 5 hgW (E'.map (Value.int .u8)) hlen
    (fun j v hv => World.news_of_block hsW j v (by simpa using hv)) ?_ (ints_oneCell .u8 E') ?_
  · simp only [List.length_append, List.length_map]
    omega
  · intro w' hr hg
    rw [List.length_map]
    refine h w' ?_ ?_
    · have hr' := hr.out
      rw [← hX, row_splice hE] at hr'
      exact hr'
    · refine ⟨hg.os.trans h1, hg.tape.trans h2, hg.output.trans h3, ?_, fun k hk hne => (hg.block k ?_ hne).trans (hold k hk)⟩
      · have := hg.size
        rw [hW] at this
        simp at this
        omega
      · rw [hW]; simp; omega

set_option maxRecDepth 100000 in
set_option maxHeartbeats 3200000 in
theorem upd_any (N g n cap mb : Nat) (ps : List Zi) (to : List Int) (R : List Value) (w : World) (t : Tab N w) (hg : N ≤ g) (hok : ∀ z ∈ ps, z.Ok) (hl : ps.length ≤ 65536) (hu : U16 to) (htl : to.length ≤ 65536)
    (hwi : Within ps to.length) (hm : MapIs w mb to) (hne : mb ≠ g) (hn : n = (asmL ps).length) (hcap : n ≤ cap) (hrow : Row w g (asmL ps) R) :
    Calls Efxg.prog 27 #[.slice (some ⟨g, 0, none⟩) n cap, .map (some mb)] w fun e w' => e = .returned (.tuple #[]) ∧ UpAt g ps to R w w' ps.length := by
  have hnl : n ≤ 262144 := by have := asmL_len_le ps; omega
  have HN : Hid (n = (asmL ps).length) := hn
  clear hn
  go_enter Efxg.func27, Efxg.ntmps27
  go_wp2
  go_loopw [4] (fun i wr => ∃ j p : Nat, j ≤ ps.length ∧ p = (asmL (ps.take j)).length ∧ i = .int .i64 p ∧ UpAt g ps to R w wr j) (fun i _ => n - (intOf i).toNat)
  case atStart => exact ⟨0, 0, Nat.zero_le _, by simp [asmL], rfl, hrow, World.grownBy.refl _ _⟩
  case round =>
    obtain ⟨j, p, hj, hp, rfl, ho⟩ := hrel
    by_cases hlt : j < ps.length
    · obtain ⟨z, hz⟩ : ∃ z, ps[j]? = some z := ⟨_, List.getElem?_eq_getElem hlt⟩
      have hzo := hok z (List.mem_of_getElem? hz)
      obtain ⟨X, Y, hr, hX, hpn, hcell, hback, hp'⟩ := up_round ho hz HN.out hp
      have hgr : g < wr.heap.size := hr.lt
      have HT : Hid (Tab N wr) := t.below ((Below.refl N w).grown ho.2 t.size (fun k hk => by cases hk; exact hg)) (Nat.le_refl _)
      have hN : N ≤ wr.heap.size := HT.out.size
      have HM : Hid (MapIs wr mb to) := by
        obtain ⟨nm, hm⟩ := hm
        exact ⟨nm, hm.kept ho.2 (by simpa using hne)⟩
      have hmb : mb < wr.heap.size := HM.out.lt
      have HW : Hid (z.ref → z.i < (to.length : Int)) := hwi z (List.mem_of_getElem? hz)
      have HR : Hid (Row wr g (X ++ (enc1 z ++ Y)) R) := hr
      have HB : Hid (∀ wr', Row wr' g (X ++ (enc1 (mapI to z) ++ Y)) R → w.grownBy wr' (some g) → UpAt g ps to R w wr' (j + 1)) := hback
      have HC : Hid (∀ t e, (enc1 z)[t]? = some e → wr.cell? ⟨g, p + t, none⟩ = some (.int .u8 e)) := hcell
      have HG : Hid (w.grownBy wr (some g)) := ho.2
      have HP : Hid (p + (enc1 z).length = (asmL (ps.take (j + 1))).length) := hp'
      have HX : Hid (X.length = p) := hX
      have HL : Hid (p + (enc1 z).length ≤ n) := hpn
      have HU : Hid (U16 to) := hu
      clear hr hback hcell ho hp' hX hpn hu hwi hm hz hok t hrow hp hne
      rcases (show z.k % 4 = 0 ∨ z.k % 4 = 1 ∨ z.k % 4 = 2 ∨ z.k % 4 = 3 by omega) with h | h | h | h
      · have HK : Hid (z.k % 4 = 0) := h
        have HE := enc1_0 h
        obtain ⟨b, o, hbN, ht0, ht1⟩ := HT.out.r0
        have hbr : b < wr.heap.size := by omega
        have hc0 : wr.cell? ⟨g, p, none⟩ = some (.int .u8 0) := HC.out 0 0 (by rw [HE]; rfl)
        have hc1 := HC.out 1 (z.i / 256) (by rw [HE]; rfl)
        have hc2 := HC.out 2 (z.i % 256) (by rw [HE]; rfl)
        have hpl : p + 3 ≤ n := by have := HL.out; rw [HE] at this; exact this
        have hil := HW.out (Or.inl h)
        have z0 := hzo.i0
        have z1 := hzo.i1
        obtain ⟨x, hx⟩ : ∃ x, x = z.i / 256 := ⟨_, rfl⟩
        obtain ⟨y, hy⟩ : ∃ y, y = z.i % 256 := ⟨_, rfl⟩
        have hx0 : 0 ≤ x := by omega
        have hx1 : x ≤ 255 := by omega
        have hy0 : 0 ≤ y := by omega
        have hy1 : y ≤ 255 := by omega
        have HI : Hid (x * 256 + y = z.i) := by show _ = _; omega
        have HE0 : Hid (enc1 z = [0, x, y]) := by show _ = _; rw [HE, hx, hy]
        rw [← hx] at hc1
        rw [← hy] at hc2
        clear hx hy h HE
        have hor := or_bytes x y hx0 hx1 hy0 hy1
        go_wp2_with fail
        refine (ro_2 b o g (p + 1) _ _ x y wr ht1 (by omega) hc1 hc2).mono ?_
        rintro e w1 ⟨⟨v, rfl⟩, hb1⟩
        have hs1 := hb1.size
        have d1 := (hb1.cell (p := ⟨g, p + 1, none⟩) hgr).trans hc1
        have d2 := (hb1.cell (p := ⟨g, p + 2, none⟩) hgr).trans hc2
        have hgr1 : g < w1.heap.size := Nat.lt_of_lt_of_le hgr hs1
        have i1 : (p : Int) + 1 < (n : Int) := by omega
        have i2 : (p : Int) + 2 < (n : Int) := by omega
        obtain ⟨xt, hxt⟩ : ∃ xt, xt = to.getD z.i.toNat 0 := ⟨_, rfl⟩
        have hxt0 : 0 ≤ xt := by rw [hxt]; exact (getD_u16 HU.out _).1
        have hxt1 : xt ≤ 65535 := by rw [hxt]; exact (getD_u16 HU.out _).2
        have hlk : ∀ nq, (Instr.lookup 28 (.map (some mb)) (.int .i64 (x * 256 + y)) true).run Efxg.prog (w1.drewN nq) = .ok (.tuple #[.int .i64 xt, .bool true]) (w1.drewN nq) := fun nq => by
          rw [hxt, HI.out]; exact look_at (HM.out.below hb1 hmb) htl z0 hil nq
        have HXT : Hid (xt = to.getD z.i.toNat 0) := hxt
        clear hc0 hc1 hc2 ht0 ht1 hxt
        go_wp2
        go_quiet (fail)
        go_wp2_with fail
        generalize hq : World.drewN w1 _ = w2
        have hb2 : Below wr.heap.size wr w2 := hq ▸ below_drewN hb1 _
        have hs2 : w2.heap.size = w1.heap.size := by rw [← hq]; rfl
        have hg2 : g < w2.heap.size := by omega
        have HR2 : Hid (Row w2 g (X ++ (enc1 z ++ Y)) R) := HR.out.far hb2 hgr
        have HT2 : Hid (Tab N w2) := HT.out.below hb2 hN
        have HG2 : Hid (w.grownBy w2 (some g)) := HG.out.trans ⟨hb2.os, hb2.tape, hb2.output, hb2.size, fun k hk _ => hb2.block k hk⟩
        have HE' : Hid (enc1 (mapI to z) = [0, xt / 256, xt % 256]) := by show _ = _; rw [encM_0 HK.out, HXT.out]
        clear hq hb2 hb1 hlk d1 d2 hor i1 i2 hs2 hs1
        have q0 : (0 : Int) ≤ (p : Int) := by omega
        have q1 : (p : Int) ≤ (n : Int) := by omega
        have q2 : (p : Int) ≤ (cap : Int) := by omega
        have q3 : (p : Int) < (cap : Int) := by omega
        have q4 : p < cap := by omega
        have q5 : ¬ cap = p := by omega
        go_region_held3 (fun _ => True) (trivial)
          (first
            | (go_at_call 23; refine (make_0 N w2.heap.size xt _ (HT2.out.below (((Below.refl _ w2).alloc (Nat.le_refl _) _).drew) HT2.out.size) hxt0 hxt1 (by simp) (by simp)).mono ?_; rintro e w3 ⟨rfl, rfl⟩)
            | (refine step_copy_ins (by rfl) _ _ (by rfl) w2 (.cells #[.int .i64 xt] 3) g p n cap 3 X (enc1 z) [0, xt / 256, xt % 256] Y R HR2.out HX.out (by rfl) (by rw [HE0.out]; rfl) HL.out (by rfl) (by rfl) (by rfl) (by rfl) (by rfl) (by rfl) ?_; intro w4 hr4 hg4))
        have RU : Hid (UpAt g ps to R w w4 (j + 1)) := HB.out w4 (by rw [HE'.out]; exact hr4.out) (HG2.out.trans hg4.out)
        have RP : Hid (p + 3 = (asmL (ps.take (j + 1))).length) := by have h := HP.out; rw [HE0.out] at h; exact h
        clear hr4 hg4 q0 q1 q2 q3 q4 q5
        go_wp2
        go_roundw
        case rel => exact ⟨j + 1, p + 3, by omega, RP.out, by go_num, RU.out⟩
        case measure => simp [intOf]; omega
      · have HK : Hid (z.k % 4 = 1) := h
        have HE := enc1_1 h
        obtain ⟨b, o, hbN, ht0, ht1, ht2⟩ := HT.out.r35
        have hbr : b < wr.heap.size := by omega
        have hc0 : wr.cell? ⟨g, p, none⟩ = some (.int .u8 35) := HC.out 0 35 (by rw [HE]; rfl)
        have hc1 := HC.out 1 (z.i / 256) (by rw [HE]; rfl)
        have hc2 := HC.out 2 (z.i % 256) (by rw [HE]; rfl)
        have hc3 := HC.out 3 z.f (by rw [HE]; rfl)
        have f0 := hzo.f0
        have f1 := hzo.f1
        have hpl : p + 4 ≤ n := by have := HL.out; rw [HE] at this; exact this
        have hil := HW.out (Or.inr h)
        have z0 := hzo.i0
        have z1 := hzo.i1
        obtain ⟨x, hx⟩ : ∃ x, x = z.i / 256 := ⟨_, rfl⟩
        obtain ⟨y, hy⟩ : ∃ y, y = z.i % 256 := ⟨_, rfl⟩
        have hx0 : 0 ≤ x := by omega
        have hx1 : x ≤ 255 := by omega
        have hy0 : 0 ≤ y := by omega
        have hy1 : y ≤ 255 := by omega
        have HI : Hid (x * 256 + y = z.i) := by show _ = _; omega
        have HE0 : Hid (enc1 z = [35, x, y, z.f]) := by show _ = _; rw [HE, hx, hy]
        rw [← hx] at hc1
        rw [← hy] at hc2
        clear hx hy h HE
        have hor := or_bytes x y hx0 hx1 hy0 hy1
        go_wp2_with fail
        refine (ro_21 b o g (p + 1) _ _ x y z.f wr ht1 ht2 f0 f1 (by omega) hc1 hc2 hc3).mono ?_
        rintro e w1 ⟨⟨v, rfl⟩, hb1⟩
        have hs1 := hb1.size
        have d1 := (hb1.cell (p := ⟨g, p + 1, none⟩) hgr).trans hc1
        have d2 := (hb1.cell (p := ⟨g, p + 2, none⟩) hgr).trans hc2
        have d3 := (hb1.cell (p := ⟨g, p + 3, none⟩) hgr).trans hc3
        have i3 : (p : Int) + 3 < (n : Int) := by omega
        have hgr1 : g < w1.heap.size := Nat.lt_of_lt_of_le hgr hs1
        have i1 : (p : Int) + 1 < (n : Int) := by omega
        have i2 : (p : Int) + 2 < (n : Int) := by omega
        obtain ⟨xt, hxt⟩ : ∃ xt, xt = to.getD z.i.toNat 0 := ⟨_, rfl⟩
        have hxt0 : 0 ≤ xt := by rw [hxt]; exact (getD_u16 HU.out _).1
        have hxt1 : xt ≤ 65535 := by rw [hxt]; exact (getD_u16 HU.out _).2
        have hlk : ∀ nq, (Instr.lookup 28 (.map (some mb)) (.int .i64 (x * 256 + y)) true).run Efxg.prog (w1.drewN nq) = .ok (.tuple #[.int .i64 xt, .bool true]) (w1.drewN nq) := fun nq => by
          rw [hxt, HI.out]; exact look_at (HM.out.below hb1 hmb) htl z0 hil nq
        have HXT : Hid (xt = to.getD z.i.toNat 0) := hxt
        clear hc0 hc1 hc2 hc3 ht0 ht1 ht2 hxt
        go_wp2
        go_quiet (fail)
        go_wp2_with fail
        generalize hq : World.drewN w1 _ = w2
        have hb2 : Below wr.heap.size wr w2 := hq ▸ below_drewN hb1 _
        have hs2 : w2.heap.size = w1.heap.size := by rw [← hq]; rfl
        have hg2 : g < w2.heap.size := by omega
        have HR2 : Hid (Row w2 g (X ++ (enc1 z ++ Y)) R) := HR.out.far hb2 hgr
        have HT2 : Hid (Tab N w2) := HT.out.below hb2 hN
        have HG2 : Hid (w.grownBy w2 (some g)) := HG.out.trans ⟨hb2.os, hb2.tape, hb2.output, hb2.size, fun k hk _ => hb2.block k hk⟩
        have HE' : Hid (enc1 (mapI to z) = [35, xt / 256, xt % 256, z.f]) := by show _ = _; rw [encM_1 HK.out, HXT.out]
        clear hq hb2 hb1 hlk d1 d2 d3 hor i1 i2 i3 hs2 hs1
        have q0 : (0 : Int) ≤ (p : Int) := by omega
        have q1 : (p : Int) ≤ (n : Int) := by omega
        have q2 : (p : Int) ≤ (cap : Int) := by omega
        have q3 : (p : Int) < (cap : Int) := by omega
        have q4 : p < cap := by omega
        have q5 : ¬ cap = p := by omega
        go_region_held3 (fun _ => True) (trivial)
          (first
            | (go_at_call 23; refine (make_35 N w2.heap.size xt z.f _ (HT2.out.below (((Below.refl _ w2).alloc (Nat.le_refl _) _).drew) HT2.out.size) hxt0 hxt1 f0 f1 (by simp) (by simp) (by simp)).mono ?_; rintro e w3 ⟨rfl, rfl⟩)
            | (refine step_copy_ins (by rfl) _ _ (by rfl) w2 (.cells #[.int .i64 xt, .int .i64 z.f] 3) g p n cap 4 X (enc1 z) [35, xt / 256, xt % 256, z.f] Y R HR2.out HX.out (by rfl) (by rw [HE0.out]; rfl) HL.out (by rfl) (by rfl) (by rfl) (by rfl) (by rfl) (by rfl) ?_; intro w4 hr4 hg4))
        have RU : Hid (UpAt g ps to R w w4 (j + 1)) := HB.out w4 (by rw [HE'.out]; exact hr4.out) (HG2.out.trans hg4.out)
        have RP : Hid (p + 4 = (asmL (ps.take (j + 1))).length) := by have h := HP.out; rw [HE0.out] at h; exact h
        clear hr4 hg4 q0 q1 q2 q3 q4 q5
        go_wp2
        go_roundw
        case rel => exact ⟨j + 1, p + 4, by omega, RP.out, by go_num, RU.out⟩
        case measure => simp [intOf]; omega
      · have HK : Hid (z.k % 4 = 2) := h
        have HE := enc1_2 h
        obtain ⟨b, o, hbN, ht0, ht1⟩ := HT.out.r22
        have hbr : b < wr.heap.size := by omega
        have hc0 : wr.cell? ⟨g, p, none⟩ = some (.int .u8 22) := HC.out 0 22 (by rw [HE]; rfl)
        have hc1 := HC.out 1 (z.i / 256) (by rw [HE]; rfl)
        have hc2 := HC.out 2 (z.i % 256) (by rw [HE]; rfl)
        have hpl : p + 3 ≤ n := by have := HL.out; rw [HE] at this; exact this
        have RP : Hid (p + 3 = (asmL (ps.take (j + 1))).length) := by have h := HP.out; rw [HE] at h; exact h
        have HE' : Hid (enc1 (mapI to z) = enc1 z) := by show _ = _; rw [encM_2 h, HE]
        clear h HE
        go_wp2_with fail
        refine (ro_2 b o g (p + 1) _ _ (z.i / 256) (z.i % 256) wr ht1 (by omega) hc1 hc2).mono ?_
        rintro e w1 ⟨⟨v, rfl⟩, hb1⟩
        have RU : Hid (UpAt g ps to R w w1 (j + 1)) := HB.out w1 (by rw [HE'.out]; exact HR.out.far hb1 hgr) (HG.out.trans ⟨hb1.os, hb1.tape, hb1.output, hb1.size, fun k hk _ => hb1.block k hk⟩)
        clear hb1 hc0 hc1 hc2 ht0 ht1
        go_wp2
        go_roundw
        case rel => exact ⟨j + 1, p + 3, by omega, RP.out, by go_num, RU.out⟩
        case measure => simp [intOf]; omega
      · have HK : Hid (z.k % 4 = 3) := h
        have HE := enc1_3 h
        obtain ⟨ao, co, ht0⟩ := HT.out.r2
        have hc0 : wr.cell? ⟨g, p, none⟩ = some (.int .u8 2) := HC.out 0 2 (by rw [HE]; rfl)
        have hpl : p + 1 ≤ n := by have := HL.out; rw [HE] at this; exact this
        have RP : Hid (p + 1 = (asmL (ps.take (j + 1))).length) := by have h := HP.out; rw [HE] at h; exact h
        have HE' : Hid (enc1 (mapI to z) = enc1 z) := by show _ = _; rw [encM_3 h, HE]
        clear h HE
        rcases Nat.lt_or_ge (p + 1) cap with hcp | hcp
        · have hcq : ¬ cap = p + 1 := by omega
          go_wp2_with fail
          refine (ro_0 ao co _ wr).mono ?_
          rintro e w1 ⟨⟨v, rfl⟩, hb1⟩
          have RU : Hid (UpAt g ps to R w w1 (j + 1)) := HB.out w1 (by rw [HE'.out]; exact HR.out.far hb1 hgr) (HG.out.trans ⟨hb1.os, hb1.tape, hb1.output, hb1.size, fun k hk _ => hb1.block k hk⟩)
          clear hb1 hc0 ht0
          go_wp2
          go_roundw
          case rel => exact ⟨j + 1, p + 1, by omega, RP.out, by go_num, RU.out⟩
          case measure => simp [intOf]; omega
        · obtain rfl : cap = p + 1 := by omega
          go_wp2_with fail
          refine (ro_0 ao co _ wr).mono ?_
          rintro e w1 ⟨⟨v, rfl⟩, hb1⟩
          have RU : Hid (UpAt g ps to R w w1 (j + 1)) := HB.out w1 (by rw [HE'.out]; exact HR.out.far hb1 hgr) (HG.out.trans ⟨hb1.os, hb1.tape, hb1.output, hb1.size, fun k hk _ => hb1.block k hk⟩)
          clear hb1 hc0 ht0
          go_wp2
          go_roundw
          case rel => exact ⟨j + 1, p + 1, by omega, RP.out, by go_num, RU.out⟩
          case measure => simp [intOf]; omega
    · have hpn : p = n := by rw [hp, HN.out, List.take_of_length_le (by omega)]
      have HO : Hid (UpAt g ps to R w wr j) := ho
      clear ho hp hrow hm hwi hok hu t
      go_wp2
      go_end0
      have e : j = ps.length := by omega
      subst e
      exact ⟨rfl, HO.out⟩
end Go.Proofs.YoefxwFmt
