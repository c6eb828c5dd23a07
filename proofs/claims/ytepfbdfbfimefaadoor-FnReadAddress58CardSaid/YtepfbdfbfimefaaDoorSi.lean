/- The evaluator is sound: every operation but calls, joined. -/
import Derived.Test.YtepfbdfbfimefaaDoorSh
set_option linter.unusedSimpArgs false
set_option linter.unusedVariables false
namespace Go.Se
open Go

section
variable {C : Cx} {E : En} {s : St} {ρ : Nat → Nat} {a : Act} {w : World}

theorem parts_val (hs : SRel C E s ρ a w) : ∀ (l : List (Nat × Operand)) (vs : List SV), evs s (l.map (·.2)) = some vs →
    (l.map fun x => (x.1, a.eval x.2)) = ((l.map (·.1)).zip vs).map (fun x => (x.1, val ρ x.2)) ∧ ∀ x ∈ (l.map (·.1)).zip vs, lab s.nx x.2
  | [], vs, h => by simp [evs] at h; subst h; simp
  | (i, x) :: l, vs, h => by
    simp only [List.map_cons, evs] at h
    split at h
    · rename_i v l' hv hl
      simp at h; subst h
      obtain ⟨h1, h2⟩ := ev_val hs hv
      obtain ⟨h3, h4⟩ := parts_val hs l l' hl
      refine ⟨by simp [h1, h3], ?_⟩
      intro y hy
      simp only [List.map_cons, List.zip_cons_cons, List.mem_cons] at hy
      rcases hy with rfl | hy
      · exact h2
      · exact h4 y hy
    · simp at h

theorem zero_cells (hT : TysOk C.P C.ty) {T : Nat} {t : Ty} (h : C.ty T = some t) (ρ : Nat → Nat) : t.zero.cells = (valL ρ (zeroCells t)).toArray ∧ ∀ n, labL n (zeroCells t) := by
  refine ⟨?_, fun n => lab_cellsOf (x := .v t.zero) trivial⟩
  rw [zeroCells, ← cells_cellsOf]
  rfl

theorem build_sound (hA : C.A = .real) (hT : TysOk C.P C.ty) (hs : SRel C E s ρ a w) {T : Nat} {t : Ty} {parts : Array (Nat × Operand)} {vs cs : List SV} (ht : C.ty T = some t) (hpl : placeable C t.d = true)
    (hv : evs s (parts.toList.map (·.2)) = some vs) (hf : fillS (placeOf C t.d) (zeroCells t) ((parts.toList.map (·.1)).zip vs) = some cs) :
    (Instr.build T (parts.map fun (i, x) => (i, a.eval x))).run C.P w = .ok (val ρ (mkAg cs)) w ∧ lab s.nx (mkAg cs) := by
  obtain ⟨i, d, hi, hd, hz, hsz, htd, hg, hfl⟩ := tyOf_all (hT _ _ ht)
  obtain ⟨h1, h2⟩ := parts_val hs parts.toList vs hv
  obtain ⟨hz1, hz2⟩ := zero_cells hT ht ρ
  refine ⟨?_, lab_mkAg (fillS_lab _ _ _ hf (hz2 _) h2)⟩
  have hparts : (parts.map fun (i, x) => (i, a.eval x)).toList = ((parts.toList.map (·.1)).zip vs).map (fun x => (x.1, val ρ x.2)) := by
    rw [← h1]; simp
  rw [val_mkAg]
  simp only [Instr.build, bind]
  rw [run_bind_pure (run_zero hi hz), run_bind_pure (run_und hd)]
  cases d <;> simp only [tdOf] at htd
  case struct fs =>
    simp only
    have hall : ∀ f ∈ fs.toList, ∃ i, C.P.info? f.type = some i := by
      intro f hf
      simp only [fldsOk, List.all_eq_true] at hfl
      exact Option.isSome_iff_exists.1 (hfl f hf)
    obtain ⟨ps, hr, he⟩ := place_struct (w := w) (fs := fs) fs.toList hall
    have hr2 : ((do let l ← (fs.toList.mapM fun f => do pure (f.offset, ← sizeOf f.type) : Sem (List (Nat × Nat))); pure l.toArray) : Sem (Array (Nat × Nat))).run C.P w = .ok ps.toArray w := by
      simp only [bind] at hr ⊢
      rw [run_bind_pure hr]; rfl
    have hm : (fs.mapM fun f => do pure (f.offset, ← sizeOf f.type) : Sem (Array (Nat × Nat))).run C.P w = .ok ps.toArray w := by
      rw [Array.mapM_eq_mapM_toList]
      simp only [Functor.map, bind] at hr ⊢
      show (Sem.bind _ _).run C.P w = _
      rw [run_bind_pure hr]; rfl
    simp only [bind] at hm
    rw [run_bind_pure hm, hz1, hparts]
    have := fill_sound ρ (place := placeOf C t.d) (place' := fun i => ps.toArray[i]?) (by
      intro k z hk
      rw [← htd] at hk
      simp only [placeOf] at hk
      split at hk
      · rename_i off ft hft
        split at hk
        · rename_i y hy
          simp at hk; subst hk
          obtain ⟨fl, hfl1, hfl2, hfl3⟩ := field_of hft
          obtain ⟨i2, d2, hi2, hd2, hz2', hs2, ht2, hg2⟩ := tyOf_parts (hT _ _ hy)
          simp only [List.getElem?_toArray, he, List.getElem?_map, Array.getElem?_toList, hfl1]
          simp [hfl2, hfl3, hi2, hs2]
        · simp at hk
      · simp at hk) _ _ _ hf
    simp only [this]
    rfl
  case array n e =>
    simp only
    cases hfe : C.ty e with
    | none => rw [← htd] at hpl; simp [placeable, hfe] at hpl
    | some y =>
      obtain ⟨i2, d2, hi2, hd2, hz2', hs2, ht2, hg2⟩ := tyOf_parts (hT _ _ hfe)
      rw [run_bind_pure (run_size hi2), hz1, hparts]
      have := fill_sound ρ (place := placeOf C t.d) (place' := fun k => some (k * i2.size, i2.size)) (by
        intro k z hk
        rw [← htd] at hk
        simp only [placeOf, hfe] at hk
        rw [← hk, hs2]) _ _ _ hf
      simp only [this]
      rfl
  all_goals
    rw [← htd] at hpl
    simp [placeable] at hpl

end
end Go.Se
