/-
  THE PLAIN PART: instructions as records of three numbers, their bytes, and what a map of indexes does to them. No Go in sight.
-/
namespace Go.Proofs.YoefxwFmt

/-- One instruction as ZIns holds it. -/
structure Zi where
  k : Int
  i : Int
  f : Int

/-- Each field within its Go kind. -/
structure Zi.Ok (z : Zi) : Prop where
  k0 : 0 ≤ z.k
  k1 : z.k ≤ 255
  i0 : 0 ≤ z.i
  i1 : z.i ≤ 65535
  f0 : 0 ≤ z.f
  f1 : z.f ≤ 255

/-- Does the instruction name a constant? -/
def Zi.ref (z : Zi) : Prop := z.k % 4 = 0 ∨ z.k % 4 = 1

/-- The bytes of one instruction. -/
def enc1 (z : Zi) : List Int :=
  if z.k % 4 = 0 then [0, z.i / 256, z.i % 256]
  else if z.k % 4 = 1 then [35, z.i / 256, z.i % 256, z.f]
  else if z.k % 4 = 2 then [22, z.i / 256, z.i % 256]
  else [2]

def asmL (ps : List Zi) : List Int := ps.flatMap enc1

/-- The index goes through 'to' where the instruction names a constant. -/
def mapI (to : List Int) (z : Zi) : Zi := if z.k % 4 = 0 ∨ z.k % 4 = 1 then ⟨z.k, to.getD z.i.toNat 0, z.f⟩ else z

/-- Every constant that is named lies within 'n'. -/
def Within (ps : List Zi) (n : Nat) : Prop := ∀ z ∈ ps, z.ref → z.i < (n : Int)

def U16 (xs : List Int) : Prop := ∀ x ∈ xs, 0 ≤ x ∧ x ≤ 65535

theorem enc1_0 {z : Zi} (h : z.k % 4 = 0) : enc1 z = [0, z.i / 256, z.i % 256] := by simp [enc1, h]
theorem enc1_1 {z : Zi} (h : z.k % 4 = 1) : enc1 z = [35, z.i / 256, z.i % 256, z.f] := by simp [enc1, h]
theorem enc1_2 {z : Zi} (h : z.k % 4 = 2) : enc1 z = [22, z.i / 256, z.i % 256] := by simp [enc1, h]
theorem enc1_3 {z : Zi} (h : z.k % 4 = 3) : enc1 z = [2] := by simp [enc1, h]

theorem enc1_len (z : Zi) : 1 ≤ (enc1 z).length ∧ (enc1 z).length ≤ 4 := by
  unfold enc1
  split <;> (try split) <;> (try split) <;> simp

theorem asmL_nil : asmL [] = [] := rfl
theorem asmL_cons (z : Zi) (ps : List Zi) : asmL (z :: ps) = enc1 z ++ asmL ps := rfl
theorem asmL_append (ps qs : List Zi) : asmL (ps ++ qs) = asmL ps ++ asmL qs := by simp [asmL]

theorem asmL_len_le (ps : List Zi) : (asmL ps).length ≤ 4 * ps.length := by
  induction ps with
  | nil => simp [asmL]
  | cons z ps ih => have := (enc1_len z).2; rw [asmL_cons]; simp only [List.length_append, List.length_cons]; omega

theorem len_le_asmL (ps : List Zi) : ps.length ≤ (asmL ps).length := by
  induction ps with
  | nil => simp [asmL]
  | cons z ps ih => have := (enc1_len z).1; rw [asmL_cons]; simp only [List.length_append, List.length_cons]; omega

theorem mapI_k (to : List Int) (z : Zi) : (mapI to z).k = z.k := by unfold mapI; split <;> rfl
theorem mapI_f (to : List Int) (z : Zi) : (mapI to z).f = z.f := by unfold mapI; split <;> rfl
theorem mapI_ref {to : List Int} {z : Zi} (h : z.ref) : mapI to z = ⟨z.k, to.getD z.i.toNat 0, z.f⟩ := by unfold mapI; exact if_pos h
theorem mapI_not {to : List Int} {z : Zi} (h : ¬ z.ref) : mapI to z = z := by unfold mapI; exact if_neg h

theorem getD_u16 {xs : List Int} (h : U16 xs) (j : Nat) : 0 ≤ xs.getD j 0 ∧ xs.getD j 0 ≤ 65535 := by
  by_cases hj : j < xs.length
  · rw [List.getD_eq_getElem?_getD, List.getElem?_eq_getElem hj]; exact h _ (List.getElem_mem hj)
  · rw [List.getD_eq_getElem?_getD, List.getElem?_eq_none (by omega)]; simp

theorem mapI_ok {to : List Int} (h : U16 to) {z : Zi} (hz : z.Ok) : (mapI to z).Ok := by
  by_cases hr : z.ref
  · rw [mapI_ref hr]
    exact ⟨hz.k0, hz.k1, (getD_u16 h _).1, (getD_u16 h _).2, hz.f0, hz.f1⟩
  · rw [mapI_not hr]; exact hz

theorem mapI_within {f : List Int} {n : Nat} (hf : ∀ j, j < f.length → f.getD j 0 < (n : Int)) {ps : List Zi} (hok : ∀ z ∈ ps, z.Ok) (hw : Within ps f.length) : Within (ps.map (mapI f)) n := by
  intro z' hz' hr
  obtain ⟨z, hz, rfl⟩ := List.mem_map.1 hz'
  have hr0 : z.ref := by unfold Zi.ref at *; rw [mapI_k] at hr; exact hr
  rw [mapI_ref hr0]
  have := hw z hz hr0
  have h0 := (hok z hz).i0
  exact hf _ (by omega)

/-- Twice is once through the composed map. -/
theorem mapI_mapI {f g gf : List Int} (hgf : ∀ j, j < f.length → gf.getD j 0 = g.getD (f.getD j 0).toNat 0) {ps : List Zi} (hok : ∀ z ∈ ps, z.Ok) (hw : Within ps f.length) :
    (ps.map (mapI f)).map (mapI g) = ps.map (mapI gf) := by
  rw [List.map_map]
  apply List.map_congr_left
  intro z hz
  by_cases hr : z.ref
  · have hr2 : (mapI f z).ref := by unfold Zi.ref at *; rw [mapI_k]; exact hr
    simp only [Function.comp_apply]
    rw [mapI_ref hr2, mapI_k, mapI_f, mapI_ref (to := gf) hr, mapI_ref (to := f) hr]
    have := hw z hz hr
    have h0 := (hok z hz).i0
    rw [hgf _ (by omega)]
  · simp only [Function.comp_apply]
    rw [mapI_not (to := gf) hr, mapI_not (to := f) hr, mapI_not hr]

end Go.Proofs.YoefxwFmt
