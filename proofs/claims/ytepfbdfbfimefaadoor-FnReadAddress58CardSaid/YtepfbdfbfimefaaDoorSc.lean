/- The evaluator is sound: memory. -/
import Derived.Test.YtepfbdfbfimefaaDoorSb
set_option linter.unusedSimpArgs false
set_option linter.unusedVariables false
namespace Go.Se
open Go

section
variable {P : Program} {w : World}

theorem run_und {t : Nat} {d : TypeDesc} (h : P.underlying t = some d) : (underlying t).run P w = .ok d w := by
  simp [underlying, program, bind, Sem.bind, Sem.run, h, pure]

theorem run_info {t : Nat} {i : TypeInfo} (h : P.info? t = some i) : (typeInfo t).run P w = .ok i w := by
  simp [typeInfo, program, bind, Sem.bind, Sem.run, h, pure]

theorem run_size {t : Nat} {i : TypeInfo} (h : P.info? t = some i) : (sizeOf t).run P w = .ok i.size w := by
  simp only [sizeOf, bind]
  rw [run_bind_pure (run_info h)]
  simp [pure, Sem.run]

theorem run_zero {t : Nat} {i : TypeInfo} {z : Value} (h : P.info? t = some i) (hz : i.zero = some z) : (zeroValue t).run P w = .ok z w := by
  simp only [zeroValue, bind]
  rw [run_bind_pure (run_info h)]
  simp [hz, pure, Sem.run]

theorem run_agg {t : Nat} {d : TypeDesc} (h : P.underlying t = some d) : (isAgg t).run P w = .ok (aggOf d) w := by
  simp only [isAgg, bind]
  rw [run_bind_pure (run_und h)]
  cases d <;> simp [pure, Sem.run, aggOf]

theorem add_add (a : Addr) (i j : Nat) : (a.add i).add j = a.add (i + j) := by
  unfold Addr.add
  by_cases h : i = 0
  · subst h; simp
  · by_cases h2 : j = 0
    · subst h2; simp [h]
    · simp [h, h2]; omega

theorem run_loadCellsFrom (a : Addr) : ∀ (cs : List Value) (i : Nat) (acc : Array Value), (∀ j, j < cs.length → w.cell? (a.add (i + j)) = cs[j]?) →
    (loadCellsFrom a i cs.length acc).run P w = .ok (acc ++ cs.toArray) w
  | [], i, acc, _ => by simp [loadCellsFrom, pure, Sem.run]
  | c :: cs, i, acc, h => by
    have h0 : w.cell? (a.add i) = some c := by simpa using h 0 (by simp)
    simp only [List.length_cons, loadCellsFrom, bind]
    rw [run_bind_pure (run_load_cell h0)]
    rw [run_loadCellsFrom a cs (i + 1) (acc.push c) (fun j hj => by
      have := h (j + 1) (by simpa using hj)
      rw [show i + 1 + j = i + (j + 1) by omega, this]
      simp)]
    simp

theorem run_loadCells (a : Addr) (cs : List Value) (h : ∀ j, j < cs.length → w.cell? (a.add j) = cs[j]?) :
    (loadCells a cs.length).run P w = .ok cs.toArray w := by
  unfold loadCells
  rw [run_loadCellsFrom a cs 0 #[] (fun j hj => by simpa using h j hj)]
  simp

theorem run_loadVar_agg {t : Nat} {y : Ty} (hy : tyOf P t = some y) (ha : y.agg = true) (a : Addr) (cs : List Value) (hn : cs.length = y.size)
    (h : ∀ j, j < cs.length → w.cell? (a.add j) = cs[j]?) : (loadVar t a).run P w = .ok (.agg cs.toArray) w := by
  obtain ⟨i, d, hi, hd, hz, hs, ht, hg⟩ := tyOf_parts hy
  simp only [loadVar, bind]
  rw [run_bind_pure (run_agg hd), hg, ha]
  simp only [if_true]
  rw [run_bind_pure (run_size hi), hs, ← hn, run_bind_pure (run_loadCells a cs h)]
  simp [pure, Sem.run]

theorem run_loadVar_one {t : Nat} {y : Ty} (hy : tyOf P t = some y) (ha : y.agg = false) (a : Addr) (v : Value)
    (h : w.cell? a = some v) : (loadVar t a).run P w = .ok v w := by
  obtain ⟨i, d, hi, hd, hz, hs, ht, hg⟩ := tyOf_parts hy
  simp only [loadVar, bind]
  rw [run_bind_pure (run_agg hd), hg, ha]
  simp only [Bool.false_eq_true, if_false]
  exact run_load_cell h

theorem run_sure (a : Addr) : (Instr.sureAddr (.pointer (some a))).run P w = .ok a w := by simp [Instr.sureAddr, pure, Sem.run]

theorem run_loadAt {t : Nat} {a : Addr} {v : Value} (h : (loadVar t a).run P w = .ok v w) : (Instr.loadAt t (.pointer (some a))).run P w = .ok v w := by
  simp only [Instr.loadAt, bind]
  rw [run_bind_pure (run_sure a)]
  exact h

/-- A value out of a Sem of values, as the next step's. -/
theorem run_v {e : Sem Value} {v : Value} {w' : World} (h : e.run P w = .ok v w') : (do pure (Next.value (← e)) : Sem Next).run P w = .ok (.value v) w' := by
  simp only [bind]
  rw [run_bind_pure h]
  simp [pure, Sem.run]

theorem run_u {e : Sem Unit} {w' : World} (h : e.run P w = .ok () w') : (do e; pure Next.skip : Sem Next).run P w = .ok .skip w' := by
  simp only [bind]
  rw [run_bind_pure h]
  simp [pure, Sem.run]

/-- A part of a known row. -/
theorem takeAt_load {cs : List SV} {o : Nat} {y : Ty} {x : SV} {ρ : Nat → Nat} {b : Nat} {T : Nat} {t : Nat} (hy : tyOf P t = some y)
    (hx : takeAt cs o y = some x) (hb : w.heap[b]? = some (.cells (valL ρ cs).toArray T (0, 0))) :
    (loadVar t ⟨b, o, none⟩).run P w = .ok (val ρ x) w := by
  unfold takeAt at hx
  cases ha : y.agg with
  | true =>
    simp only [ha, if_true] at hx
    cases hb2 : Nat.beq ((cs.drop o).take y.size).length y.size with
    | false => simp only [hb2, cond_false] at hx; cases hx
    | true =>
      simp only [hb2, cond_true, Option.some.injEq] at hx
      subst hx
      have hlen := Nat.eq_of_beq_eq_true hb2
      rw [val_mkAg]
      refine run_loadVar_agg hy ha _ _ (by rw [valL_map]; simpa using hlen) fun j hj => ?_
      have hj' : j < ((cs.drop o).take y.size).length := by simpa [valL_map] using hj
      have : (⟨b, o, none⟩ : Addr).add j = ⟨b, o + j, none⟩ := by
        unfold Addr.add; split <;> simp_all
      rw [this, cell_of hb]
      simp only [valL_map, List.getElem?_toArray, List.getElem?_map]
      rw [hlen] at hj'
      simp [List.getElem?_take, hj', List.getElem?_drop]
  | false =>
    simp only [ha, Bool.false_eq_true, if_false] at hx
    refine run_loadVar_one hy ha _ _ ?_
    rw [cell_of hb]
    simp [valL_map, hx]

theorem takeAt_lab {cs : List SV} {o : Nat} {y : Ty} {x : SV} {n : Nat} (hx : takeAt cs o y = some x) (h : labL n cs) : lab n x := by
  unfold takeAt at hx
  rw [labL_iff] at h
  cases ha : y.agg with
  | true =>
    simp only [ha, if_true] at hx
    cases hb2 : Nat.beq ((cs.drop o).take y.size).length y.size with
    | false => simp only [hb2, cond_false] at hx; cases hx
    | true =>
      simp only [hb2, cond_true, Option.some.injEq] at hx
      subst hx
      refine lab_mkAg ((labL_iff _ _).2 fun z hz => h z ?_)
      exact List.mem_of_mem_drop (List.mem_of_mem_take hz)
  | false =>
    simp only [ha, Bool.false_eq_true, if_false] at hx
    exact h x (List.mem_of_getElem? hx)

theorem takeAt_part {cs : List SV} {o : Nat} {y : Ty} {x : SV} {ρ : Nat → Nat} {t : Nat} (hy : tyOf P t = some y)
    (hx : takeAt cs o y = some x) : (part t (valL ρ cs).toArray o).run P w = .ok (val ρ x) w := by
  obtain ⟨i, d, hi, hd, hz, hs, ht, hg⟩ := tyOf_parts hy
  unfold takeAt at hx
  simp only [part, bind]
  rw [run_bind_pure (run_agg hd), hg]
  cases ha : y.agg with
  | true =>
    simp only [ha, if_true] at hx ⊢
    cases hb2 : Nat.beq ((cs.drop o).take y.size).length y.size with
    | false => simp only [hb2, cond_false] at hx; cases hx
    | true =>
      simp only [hb2, cond_true, Option.some.injEq] at hx
      subst hx
      rw [run_bind_pure (run_size hi), hs, val_mkAg]
      simp [pure, Sem.run, valL_map, List.map_take, List.map_drop, List.extract_eq_take_drop]
  | false =>
    simp only [ha, Bool.false_eq_true, if_false] at hx ⊢
    simp [valL_map, hx, pure, Sem.run]
end
end Go.Se
