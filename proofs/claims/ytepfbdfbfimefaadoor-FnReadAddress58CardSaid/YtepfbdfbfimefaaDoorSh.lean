/- The evaluator is sound: every operation. -/
import Derived.Test.YtepfbdfbfimefaaDoorSg
set_option linter.unusedSimpArgs false
set_option linter.unusedVariables false
namespace Go.Se
open Go

section
variable {C : Cx} {E : En} {s : St} {ρ : Nat → Nat} {a : Act} {w : World}

theorem cell_add {b off d : Nat} : (⟨b, off, none⟩ : Addr).add d = ⟨b, off + d, none⟩ := by unfold Addr.add; split <;> simp_all

theorem mkIf_val (ρ : Nat → Nat) (T : Nat) (x : SV) : val ρ (mkIf T x) = .iface T (val ρ x) := by cases x <;> rfl
theorem mkIf_lab {n T : Nat} {x : SV} (h : lab n x) : lab n (mkIf T x) := by cases x <;> exact h

theorem run_fieldPlace {P : Program} {f : Field} {i : TypeInfo} {ad : Addr} (hi : P.info? f.type = some i) (hz : i.size ≠ 0) :
    (fieldPlace ad f).run P w = .ok (ad.add f.offset) w := by
  simp only [fieldPlace, bind]
  rw [run_bind_pure (run_size hi)]
  simp [hz, run_pure]

theorem run_fieldAt {P : Program} {T : Nat} {fs : Array Field} {k : Nat} {fl : Field} {i : TypeInfo} {ad : Addr} (hd : P.underlying T = some (.struct fs))
    (hf : fs[k]? = some fl) (hi : P.info? fl.type = some i) (hz : i.size ≠ 0) : (Instr.fieldAt T (.pointer (some ad)) k).run P w = .ok (.pointer (some (ad.add fl.offset))) w := by
  simp only [Instr.fieldAt, bind]
  rw [run_bind_pure (run_und hd)]
  simp only [hf]
  rw [run_bind_pure (run_sure ad), run_bind_pure (run_fieldPlace hi hz)]
  rfl

theorem field_of {fs : Array Field} {k : Nat} {d t : Nat} (h : (fs.toList.map fun f => (f.offset, f.type))[k]? = some (d, t)) :
    ∃ fl, fs[k]? = some fl ∧ fl.offset = d ∧ fl.type = t := by
  simp only [List.getElem?_map, Array.getElem?_toList] at h
  cases hf : fs[k]? with
  | none => simp [hf] at h
  | some fl => simp [hf] at h; exact ⟨fl, rfl, h.1, h.2⟩

theorem row_addr {r : Row} (h : w.ownsRowG 0 r.e r.sz r.v r.n r.xs) {ad : Addr} (ha : r.a = some ad) :
    ad = ⟨ad.block, 0, none⟩ ∧ ∃ cur, (∃ fz, w.heap[ad.block]? = some (.cells cur r.e fz) ∧ UnF cur.size fz) ∧ r.n ≤ r.cap ∧ r.cap ≤ maxLen ∧ cur.size = r.cap * r.sz ∧ cur.toList.take (r.n * r.sz) = r.xs := by
  rcases h.2 with ⟨hv, _⟩ | ⟨g, cap, cur, hv, _, h1, h2, h3, h4, h5⟩
  · simp [Row.v, ha] at hv
  · simp only [Row.v, ha, Value.slice.injEq, Option.some.injEq] at hv
    obtain ⟨h6, _, h7⟩ := hv
    subst h7 h6
    exact ⟨rfl, cur, h1, h2, h3, h4, h5⟩

theorem row_at {r : Row} (h : RowOk w r) {ad : Addr} (ha : r.a = some ad) : ad = ⟨ad.block, 0, none⟩ := by
  rcases h with ⟨_, h⟩ | ⟨_, _, bs, _, h⟩ | ⟨_, _, g, s, pos, h, _⟩
  · exact (row_addr h ha).1
  rotate_left
  · rw [h] at ha
    simp only [Option.some.injEq] at ha
    rw [← ha]
  · rcases h.2 with ⟨hv, _⟩ | ⟨g, cap, cur, fz, hv, _⟩
    · simp [Row.v, ha] at hv
    · simp only [Row.v, ha, Value.slice.injEq, Option.some.injEq] at hv
      rw [hv.1]

theorem row_blk {r : Row} {ad : Addr} (ha : r.a = some ad) : r.blk = some ad.block := by simp [Row.blk, Row.v, ha, Value.ownBlock]

theorem kcell_sound {R : RO} {hp : List (Nat × HB)} {nx : Nat} {rs : List Row} (h : HRel R hp nx rs ρ w) {ad : Addr} {v : Value} (hk : KCell R rs ad v) : w.cell? ad = some v := by
  rcases hk with hc | ⟨r, hr, a, j, ha, rfl, hx⟩
  · unfold rcell at hc
    split at hc
    · rename_i c _ _ hR
      have := h.ro _ _ hR
      simp only [World.cell?, this]
      exact hc
    · simp at hc
  · have h1 := row_at (h.row r hr) ha
    rw [h1]
    exact (h.row r hr).cells (row_blk ha) j v hx

theorem load_sound (hT : TysOk C.P C.ty) (hs : SRel C E s ρ a w) {T : Nat} {y : Ty} {ad : Addr} {x : Value} (hy : C.ty T = some y)
    (h : RLoad s.R s.rw_ ad y.agg y.size x) : (loadVar T ad).run C.P w = .ok x w := by
  have hty := hT _ _ hy
  cases ha : y.agg with
  | true =>
    rw [ha] at h
    obtain ⟨cs, rfl, hn, hc⟩ := h
    refine run_loadVar_agg hty ha ad cs hn fun j hj => ?_
    have h2 : cs[j]? = some cs[j] := List.getElem?_eq_getElem hj
    rw [h2]
    exact kcell_sound hs.hr (hc j _ h2)
  | false =>
    rw [ha] at h
    exact run_loadVar_one hty ha ad x (kcell_sound hs.hr h)

theorem place_struct {P : Program} {fs : Array Field} : ∀ (l : List Field), (∀ f ∈ l, ∃ i, P.info? f.type = some i) →
    ∃ ps : List (Nat × Nat), (l.mapM fun f => do pure (f.offset, ← sizeOf f.type) : Sem (List (Nat × Nat))).run P w = .ok ps w ∧
      ps = l.map fun f => (f.offset, ((P.info? f.type).map (·.size)).getD 0)
  | [], _ => ⟨[], rfl, rfl⟩
  | f :: l, h => by
    obtain ⟨i, hi⟩ := h f (by simp)
    obtain ⟨ps, hr, he⟩ := place_struct (fs := fs) l (fun g hg => h g (by simp [hg]))
    refine ⟨(f.offset, i.size) :: ps, ?_, by simp [hi, he]⟩
    rw [List.mapM_cons]
    simp only [bind] at hr ⊢
    have h1 : (Sem.bind (sizeOf f.type) fun z => pure (f.offset, z) : Sem (Nat × Nat)).run P w = .ok (f.offset, i.size) w := by
      rw [run_bind_pure (run_size hi)]; rfl
    rw [run_bind_pure h1, run_bind_pure hr]
    rfl

theorem fill_list (ρ : Nat → Nat) : ∀ (c cs : List SV) (off j : Nat),
    ((c.map (val ρ)).zipIdx j).foldl (fun (cs : Array Value) (x : Value × Nat) => cs.setIfInBounds (off + x.2) x.1) (valL ρ cs).toArray = (valL ρ (putAt cs (off + j) c)).toArray
  | [], cs, off, j => by simp [putAt]
  | x :: c, cs, off, j => by
    have := fill_list ρ c (cs.set (off + j) x) off (j + 1)
    simp only [List.map_cons, List.zipIdx_cons, List.foldl_cons, putAt]
    rw [← Nat.add_assoc] at this
    rw [← this]
    simp [valL_set]

theorem fill_arr (ρ : Nat → Nat) (c cs : List SV) (off : Nat) :
    ((c.map (val ρ)).toArray.zipIdx).foldl (fun (cs : Array Value) (x : Value × Nat) => cs.setIfInBounds (off + x.2) x.1) (valL ρ cs).toArray = (valL ρ (putAt cs off c)).toArray := by
  rw [← Array.foldl_toList, Array.toList_zipIdx]
  exact fill_list ρ c cs off 0

theorem fill_sound (ρ : Nat → Nat) {place place' : Nat → Option (Nat × Nat)} (hp : ∀ i z, place i = some z → place' i = some z) :
    ∀ (ps : List (Nat × SV)) (cs cs' : List SV), fillS place cs ps = some cs' →
      Instr.fill place' (valL ρ cs).toArray (ps.map fun x => (x.1, val ρ x.2)) = some (valL ρ cs').toArray
  | [], cs, cs', h => by simp [fillS] at h; subst h; simp [Instr.fill]
  | (i, x) :: ps, cs, cs', h => by
    simp only [fillS] at h
    cases hpl : place i with
    | none => simp [hpl] at h
    | some z =>
      obtain ⟨off, size⟩ := z
      simp only [hpl] at h
      cases hb : (Nat.beq (cellsOf x).length size && Nat.ble (off + size) cs.length) with
      | false => simp only [hb, cond_false] at h; cases h
      | true =>
        simp only [hb, cond_true] at h
        simp only [Bool.and_eq_true] at hb
        have h1 := Nat.eq_of_beq_eq_true hb.1
        have h2 := Nat.le_of_ble_eq_true hb.2
        have hl : (val ρ x).cells.size = size := by rw [cells_cellsOf, valL_map]; simpa using h1
        have hl2 : (valL ρ cs).length = cs.length := by simp [valL_map]
        simp only [List.map_cons, Instr.fill, hp i _ hpl]
        rw [if_neg (by simp [hl, hl2]; omega)]
        rw [cells_cellsOf, valL_map ρ (cellsOf x)]
        have := fill_arr ρ (cellsOf x) cs off
        rw [this]
        exact fill_sound ρ hp ps _ _ h

theorem fillS_lab {place : Nat → Option (Nat × Nat)} {n : Nat} : ∀ (ps : List (Nat × SV)) (cs cs' : List SV), fillS place cs ps = some cs' → labL n cs →
    (∀ x ∈ ps, lab n x.2) → labL n cs'
  | [], cs, cs', h, hc, _ => by simp [fillS] at h; subst h; exact hc
  | (i, x) :: ps, cs, cs', h, hc, hx => by
    simp only [fillS] at h
    cases hpl : place i with
    | none => simp [hpl] at h
    | some z =>
      obtain ⟨off, size⟩ := z
      simp only [hpl] at h
      cases hb : (Nat.beq (cellsOf x).length size && Nat.ble (off + size) cs.length) with
      | false => simp only [hb, cond_false] at h; cases h
      | true =>
        simp only [hb, cond_true] at h
        exact fillS_lab ps _ _ h (labL_putAt _ _ _ hc (lab_cellsOf (hx (i, x) (by simp)))) fun y hy => hx y (by simp [hy])
end
end Go.Se
