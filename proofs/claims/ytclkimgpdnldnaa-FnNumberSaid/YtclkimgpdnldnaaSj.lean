/- The evaluator is sound: every operation, calls among them. -/
import Derived.Test.YtclkimgpdnldnaaSi
set_option linter.unusedSimpArgs false
set_option linter.unusedVariables false
namespace Go.Se
open Go

section
variable {C : Cx} {E : En} {s : St} {ρ : Nat → Nat} {a : Act} {w : World}

theorem Does.wp {o : Oper} {K : St → Prop} (h : Does C E o a w K) {next : Act → World → Prop} {Q : Exit → Act → World → Prop}
    (hk : ∀ s' ρ' a' w', K s' → SRel C E s' ρ' a' w' → next a' w') : o.wp C.P a w next Q := by
  obtain ⟨x, w', s', ρ', hr, h1, h2⟩ := h
  unfold Oper.wp
  rw [hr]
  exact hk _ _ _ _ h1 h2

theorem run_newRow {P : Program} {T : Nat} {cs : Array Value} : (newRow T cs).run P w = .ok ⟨w.heap.size, 0, none⟩ { w with heap := w.heap.push (.cells cs T) } := by
  simp [newRow, newObj, bind, Sem.bind, Sem.run, pure]

theorem does_new (hs : SRel C E s ρ a w) {o : Oper} {T : Nat} {cs : List SV} {K : St → Prop} {v : SV} (hl : labL s.nx cs) (hv : v = .p s.nx 0 ∨ ∃ n, v = .se s.nx 0 n n)
    (h : (s.new T cs).put C o.dst v K)
    (hr : ∀ ρ' : Nat → Nat, ρ' s.nx = w.heap.size → (execOp a.eval o).run C.P w = .ok (.value (val ρ' v)) { w with heap := w.heap.push (.cells (valL ρ cs).toArray T) }) :
    Does C E o a w K := by
  obtain ⟨h1, h2⟩ := new_sound hs T hl
  refine does_of (hr _ ?_) h h1 ?_
  · simp
  · rcases hv with rfl | ⟨n, rfl⟩ <;> simp [lab, St.new]

theorem pure_op {o : Oper} {v : SV} {K : St → Prop} (hs : SRel C E s ρ a w) (hl : lab s.nx v) (h : s.put C o.dst v K) {e : Sem Value}
    (he : execOp a.eval o = (do pure (Next.value (← e)))) (hr : e.run C.P w = .ok (val ρ v) w) : Does C E o a w K :=
  does_here hs hl h (by rw [he]; exact run_v hr)

theorem td_str {d : TypeDesc} (h : tdOf d = .str) : d = .string := by cases d <;> simp [tdOf] at h <;> rfl

theorem op_sound (hA : C.A = .real) (hT : TysOk C.P C.ty) (hs : SRel C E s ρ a w) {o : Oper} {K : St → Prop} (h : opVC C s o K)
    {next : Act → World → Prop} {Q : Exit → Act → World → Prop} (hk : ∀ s' ρ' a' w', K s' → SRel C E s' ρ' a' w' → next a' w') : o.wp C.P a w next Q := by
  have hnat : ∀ n, val ρ (natI C n) = goInt n := fun n => by simp [natI, val, hA, Ar.real, goInt]
  unfold opVC at h
  split at h
  · -- move
    rename_i x ho
    split at h
    · rename_i v hv
      obtain ⟨h1, h2⟩ := ev_val hs hv
      exact (does_here hs h2 h (by unfold execOp; rw [ho]; simp only; rw [h1]; rfl)).wp hk
    · exact h.no.elim
  · rename_i x ho
    split at h
    · rename_i v hv
      obtain ⟨h1, h2⟩ := ev_val hs hv
      exact (does_here hs h2 h (by unfold execOp; rw [ho]; simp only; rw [h1]; rfl)).wp hk
    · exact h.no.elim
  · -- pick
    rename_i c x y ho
    have pk : ∀ {b : Bool} {v : SV}, s.ev c = some (.v (.bool b)) → s.ev (if b then x else y) = some v → s.put C o.dst v K → o.wp C.P a w next Q := by
      intro b v hc hv hp
      obtain ⟨h1, h2⟩ := ev_val hs hv
      have h3 := (ev_val hs hc).1
      refine (does_here hs h2 hp ?_).wp hk
      unfold execOp; rw [ho]; simp only; rw [h3]
      simp only [val, asBool, bind, pure, Sem.bind]
      cases b <;> simp_all [Sem.run]
    split at h
    · rename_i b u v hc hu hv
      unfold br at h
      cases b with
      | true => exact pk hc (by simpa using hu) h
      | false => exact pk hc (by simpa using hv) h
    · rename_i b u hc hu hv
      obtain ⟨h1, h2⟩ := h
      exact pk hc (by rw [h1]; simpa using hu) h2
    · rename_i b v hc hu hv
      obtain ⟨h1, h2⟩ := h
      exact pk hc (by rw [h1]; simpa using hv) h2
    · exact h.no.elim
  · -- alloc
    rename_i T ho
    split at h
    · rename_i t ht
      obtain ⟨hz1, hz2⟩ := zero_cells hT ht ρ
      obtain ⟨i, d, hi, hd, hz, hsz, htd, hg⟩ := tyOf_parts (hT _ _ ht)
      refine (does_new hs (hz2 _) (.inl rfl) h fun ρ' hρ => ?_).wp hk
      unfold execOp; rw [ho]; simp only
      refine run_v ?_
      simp only [Instr.alloc, bind]
      rw [run_bind_pure (run_zero hi hz)]
      show (Sem.bind (newVar T t.zero) _).run C.P w = _
      unfold newVar
      rw [run_bind_pure run_newRow, hz1]
      simp [val, hρ, run_pure]
    · exact h.no.elim
  · -- box
    rename_i T x ho
    split at h
    · rename_i v hv
      obtain ⟨h1, h2⟩ := ev_val hs hv
      refine (does_new hs (lab_cellsOf h2) (.inl rfl) h fun ρ' hρ => ?_).wp hk
      unfold execOp; rw [ho]; simp only; rw [h1]
      refine run_v ?_
      simp only [Instr.box, bind]
      unfold newVar
      rw [run_bind_pure run_newRow, cells_cellsOf]
      simp [val, hρ, run_pure]
    · exact h.no.elim
  · -- build
    rename_i T parts ho
    split at h
    · rename_i t vs ht hv
      split at h
      · rename_i cs hp hf
        obtain ⟨h1, h2⟩ := build_sound hA hT hs ht hp hv hf
        exact (pure_op hs h2 h (by unfold execOp; rw [ho]) h1).wp hk
      · exact h.no.elim
    · exact h.no.elim
  · -- buildSlice
    rename_i T len parts ho
    split at h
    · rename_i e _ _ _ vs hT1 hv
      split at h
      · rename_i t ht
        split at h
        · rename_i cs hg hf
          simp only [Bool.and_eq_true] at hg
          have hg1 := Nat.eq_of_beq_eq_true hg.1
          have hg2 := Nat.le_of_ble_eq_true hg.2
          obtain ⟨d1, hd1, ht1⟩ := und_of (hT _ _ hT1)
          obtain rfl := td_slc ht1
          obtain ⟨i2, d2, hi2, hd2, hz2, hs2, htd2, hgg2⟩ := tyOf_parts (hT _ _ ht)
          obtain ⟨p1, p2⟩ := parts_val hs parts.toList vs hv
          obtain ⟨z1, z2⟩ := zero_cells hT ht ρ
          have hrow : labL s.nx (zeroRow t len) := by
            rw [labL_iff]; intro z hz
            obtain ⟨j, _, rfl⟩ := List.mem_map.1 hz
            cases hj : (zeroCells t)[j % t.size]? with
            | none => trivial
            | some q => exact (labL_iff _ _).1 (z2 _) q (List.mem_of_getElem? hj)
          refine (does_new hs (fillS_lab _ _ _ hf hrow p2) (.inr ⟨len, rfl⟩) h fun ρ' hρ => ?_).wp hk
          unfold execOp; rw [ho]; simp only
          refine run_v ?_
          simp only [Instr.buildSlice, bind]
          rw [run_bind_pure (run_und hd1)]
          simp only
          rw [run_bind_pure (run_size hi2), hs2]
          rw [if_neg (by omega)]
          have hparts : (parts.map fun (i, x) => (i, a.eval x)).toList = ((parts.toList.map (·.1)).zip vs).map (fun x => (x.1, val ρ x.2)) := by
            rw [← p1]; simp
          have hzero : ∀ (zz : Array Value), (len * t.size ≠ 0 → zz = t.zero.cells) → (Array.range (len * t.size)).map (fun j => zz[j % zz.size]!) = (valL ρ (zeroRow t len)).toArray := by
            intro zz hzz
            apply Array.ext'
            rw [Array.toList_map, Array.toList_range, valL_map, zeroRow, List.map_map]
            apply List.map_congr_left
            intro j hj
            have hj := List.mem_range.1 hj
            have hne : len * t.size ≠ 0 := by omega
            have hsz : 0 < t.size := by
              rcases Nat.eq_zero_or_pos t.size with h0 | h0
              · rw [h0] at hne; simp at hne
              · exact h0
            have hlt := Nat.mod_lt j hsz
            rw [hzz hne, z1]
            simp only [valL_map, List.size_toArray, List.length_map, hg1, Function.comp]
            simp [hlt, hg1]
          by_cases h0 : len * t.size = 0
          · simp only [h0, if_true]
            rw [run_bind_pure (run_pure (P := C.P) (w := w) (#[] : Array Value))]
            have hz3 := hzero #[] (fun hne => absurd h0 hne)
            rw [h0] at hz3
            rw [hz3, hparts, fill_sound ρ (place' := fun i => some (i * t.size, t.size)) (fun i z hz => hz) _ _ _ hf]
            simp only
            rw [run_bind_pure run_newRow]
            simp [val, hρ, run_pure]
          · simp only [h0, if_false]
            rw [run_bind_pure (run_zero hi2 hz2), run_bind_pure (run_pure (P := C.P) (w := w) t.zero.cells)]
            rw [hzero t.zero.cells (fun _ => rfl), hparts, fill_sound ρ (place' := fun i => some (i * t.size, t.size)) (fun i z hz => hz) _ _ _ hf]
            simp only
            rw [run_bind_pure run_newRow]
            simp [val, hρ, run_pure]
        · exact h.no.elim
      · exact h.no.elim
    · exact h.no.elim
  · -- load
    rename_i T x ho
    split at h
    · rename_i l off t hx ht
      split at h
      · rename_i b hb
        split at h
        · rename_i v hv
          have h1 := (ev_val hs hx).1
          exact (pure_op hs (takeAt_lab hv (hs.hr.wf _ _ hb).2) h (by unfold execOp; rw [ho]) (by
            rw [h1]; exact run_loadAt (takeAt_load (hT _ _ ht) hv (hs.hr.blk _ _ hb)))).wp hk
        · exact h.no.elim
      · exact h.no.elim
    · rename_i ad t hx ht
      obtain ⟨v, h1, h2⟩ := h.go
      have h3 := (ev_val hs hx).1
      exact (pure_op hs (v := .v v) trivial h2 (by unfold execOp; rw [ho]) (by
        rw [h3]; exact run_loadAt (load_sound hT hs ht h1))).wp hk
    · exact h.no.elim
  · -- store
    rename_i T x y ho
    split at h
    · rename_i l off v t hx hv ht
      split at h
      · rename_i b cs hb hc
        cases hbb : Nat.ble (off + cs.length) b.cs.length with
        | false => simp only [hbb, cond_false] at h; exact h.no.elim
        | true =>
          simp only [hbb, cond_true] at h
          have hlen := Nat.le_of_ble_eq_true hbb
          obtain ⟨e1, l1⟩ := ev_val hs hx
          obtain ⟨e2, l2⟩ := ev_val hs hv
          have hcs : (val ρ v).cells = (valL ρ cs).toArray ∧ cs.length = t.size ∧ labL s.nx cs ∧ ∀ z ∈ cs, one z = true := by
            unfold sizedCells at hc
            cases hag : t.agg with
            | true =>
              simp only [hag, if_true] at hc
              split at hc
              · rename_i xs
                cases hq : (Nat.beq xs.length t.size && xs.all one) with
                | false => simp only [hq, cond_false] at hc; cases hc
                | true =>
                  simp only [hq, cond_true, Option.some.injEq] at hc
                  subst hc
                  simp only [Bool.and_eq_true, List.all_eq_true] at hq
                  exact ⟨by simp [val, Value.cells], Nat.eq_of_beq_eq_true hq.1, l2, hq.2⟩
              · rename_i vs
                cases hq : (Nat.beq vs.toList.length t.size && (vs.toList.map SV.v).all one) with
                | false => simp only [hq, cond_false] at hc; cases hc
                | true =>
                  simp only [hq, cond_true, Option.some.injEq] at hc
                  subst hc
                  simp only [Bool.and_eq_true, List.all_eq_true] at hq
                  refine ⟨by simp [val, Value.cells, valL_map, Function.comp_def], by simpa using Nat.eq_of_beq_eq_true hq.1, ?_, hq.2⟩
                  rw [labL_iff]; intro z hz
                  obtain ⟨q, _, rfl⟩ := List.mem_map.1 hz
                  trivial
              · simp at hc
            | false =>
              simp only [hag, Bool.false_eq_true, if_false] at hc
              cases hq : (one v && Nat.beq t.size 1) with
              | false => simp only [hq, cond_false] at hc; cases hc
              | true =>
                simp only [hq, cond_true, Option.some.injEq] at hc
                subst hc
                simp only [Bool.and_eq_true] at hq
                have := Nat.eq_of_beq_eq_true hq.2
                refine ⟨?_, by simp [this], ⟨l2, trivial⟩, by simpa using hq.1⟩
                have h1 := one_val (ρ := ρ) hq.1
                simp only [valL]
                cases hvv : val ρ v <;> simp_all [Value.cells, oneV]
          obtain ⟨hc1, hc2, hc3, hc4⟩ := hcs
          have hbl := hs.hr.blk _ _ hb
          obtain ⟨w', hr, hw, ho1⟩ := run_storeVar (P := C.P) (hT _ _ ht) (off := off) (v := val ρ v) (vs := valL ρ cs) hbl hc1 (by simp [valL_map, hc2]) (by simpa [valL_map] using hlen)
            (by intro z hz; rw [valL_map] at hz; obtain ⟨q, hq, rfl⟩ := List.mem_map.1 hz; exact one_val (hc4 q hq))
          have hss := store_sound hs (b' := { b with cs := putAt b.cs off cs }) hb rfl (labL_putAt _ _ _ (hs.hr.wf _ _ hb).2 hc3) (w' := w') (by rw [hw]; simp [valL_putAt]) ho1
          obtain ⟨s', k1, k2⟩ := put_sound (v := .v undef) h hss trivial
          unfold Oper.wp execOp
          rw [ho]
          simp only
          rw [e1, e2]
          have : (Instr.storeAt T (val ρ (.p l off)) (val ρ v)).run C.P w = .ok () w' := by
            simp only [Instr.storeAt, bind, val]
            rw [run_bind_pure (run_sure _)]
            exact hr
          rw [run_u this]
          exact hk _ _ _ _ k1 k2
      · exact h.no.elim
    · exact h.no.elim
  · -- nilCheck
    rename_i x ho
    split at h
    · rename_i ad hx
      have h3 := (ev_val hs hx).1
      exact (does_here hs (v := .v (.pointer (some ad))) trivial h (by unfold execOp; rw [ho]; simp only; rw [h3]; rfl)).wp hk
    · rename_i l off hx
      obtain ⟨h3, h4⟩ := ev_val hs hx
      exact (does_here hs h4 h (by unfold execOp; rw [ho]; simp only; rw [h3]; rfl)).wp hk
    · exact h.no.elim
  · -- binOp
    rename_i op T x y T' ho
    split at h
    · rename_i u v hu hv
      obtain ⟨r, h1, h2⟩ := binVC_sound hA hT hs ho hu hv h
      exact (does_here hs (v := .v r) trivial h1 h2).wp hk
    · exact h.no.elim
  · -- unOp
    rename_i op T x ho
    split at h
    · rename_i b hx
      have h3 := (ev_val hs hx).1
      exact (pure_op hs (v := .v (.bool (C.A.not b))) trivial h (by unfold execOp; rw [ho]) (by rw [h3, hA]; rfl)).wp hk
    · rename_i k n hx
      have h3 := (ev_val hs hx).1
      exact (pure_op hs (v := .v (.int k (C.A.neg k n))) trivial h (by unfold execOp; rw [ho]) (by rw [h3, hA]; rfl)).wp hk
    · rename_i k n hx
      have h3 := (ev_val hs hx).1
      exact (pure_op hs (v := .v (.int k (C.A.com k n))) trivial h (by unfold execOp; rw [ho]) (by rw [h3, hA]; rfl)).wp hk
    · exact h.no.elim
  · -- convert
    rename_i T D x ho
    split at h
    · rename_i k1 _ _ _ k2 _ _ _ k3 n hS hD hx
      have h3 := (ev_val hs hx).1
      obtain ⟨d1, hd1, ht1⟩ := und_of (hT _ _ hS)
      obtain ⟨d2, hd2, ht2⟩ := und_of (hT _ _ hD)
      obtain rfl := td_int ht1
      obtain rfl := td_int ht2
      exact (pure_op hs (v := .v (.int k2 (C.A.conv k2 n))) trivial h (by unfold execOp; rw [ho]) (by
        rw [h3, hA]
        simp only [convert, bind, val]
        rw [run_bind_pure (run_und hd1), run_bind_pure (run_und hd2)]
        rfl)).wp hk
    · exact h.no.elim
  · -- makeInterface
    rename_i T x ho
    split at h
    · rename_i v t hx ht
      cases hb : isIfc t.d with
      | true => simp only [hb, cond_true] at h; exact h.no.elim
      | false =>
        simp only [hb, cond_false] at h
        obtain ⟨h3, h4⟩ := ev_val hs hx
        obtain ⟨d1, hd1, ht1⟩ := und_of (hT _ _ ht)
        refine (pure_op hs (mkIf_lab h4) h (by unfold execOp; rw [ho]) ?_).wp hk
        rw [h3, mkIf_val]
        simp only [Instr.makeInterface, bind]
        rw [run_bind_pure (run_und hd1)]
        cases d1 <;> first | rfl | (rw [← ht1] at hb; simp [tdOf, isIfc] at hb)
    · exact h.no.elim
  · -- fieldAddr
    rename_i T x f ho
    split at h
    · rename_i l off fs _ _ _ hx ht
      split at h
      · rename_i dd ft hft
        split at h
        · rename_i t2 ht2
          cases hb : Nat.beq t2.size 0 with
          | true => simp only [hb, cond_true] at h; exact h.no.elim
          | false =>
            simp only [hb, cond_false] at h
            obtain ⟨h3, h4⟩ := ev_val hs hx
            obtain ⟨d1, hd1, ht1⟩ := und_of (hT _ _ ht)
            obtain ⟨fl, rfl, rfl⟩ := td_stc ht1
            obtain ⟨fl1, hf1, hf2, hf3⟩ := field_of hft
            obtain ⟨i2, d2, hi2, hd2, hz2, hs2, htd2, hg2⟩ := tyOf_parts (hT _ _ ht2)
            refine (pure_op hs (v := .p l (off + dd)) h4 h (by unfold execOp; rw [ho]) ?_).wp hk
            rw [h3]
            have := run_fieldAt (w := w) (ad := ⟨ρ l, off, none⟩) hd1 hf1 (by rw [hf3]; exact hi2) (by rw [hs2]; intro h0; rw [h0] at hb; simp at hb)
            rw [hf2, cell_add] at this
            exact this
        · exact h.no.elim
      · exact h.no.elim
    · rename_i ad fs _ _ _ hx ht
      split at h
      · rename_i dd ft hft
        split at h
        · rename_i t2 ht2
          cases hb : Nat.beq t2.size 0 with
          | true => simp only [hb, cond_true] at h; exact h.no.elim
          | false =>
            simp only [hb, cond_false] at h
            obtain ⟨h3, h4⟩ := ev_val hs hx
            obtain ⟨d1, hd1, ht1⟩ := und_of (hT _ _ ht)
            obtain ⟨fl, rfl, rfl⟩ := td_stc ht1
            obtain ⟨fl1, hf1, hf2, hf3⟩ := field_of hft
            obtain ⟨i2, d2, hi2, hd2, hz2, hs2, htd2, hg2⟩ := tyOf_parts (hT _ _ ht2)
            refine (pure_op hs (v := .v (.pointer (some (C.A.fld ad dd)))) trivial h (by unfold execOp; rw [ho]) ?_).wp hk
            rw [h3]
            have := run_fieldAt (w := w) (ad := ad) hd1 hf1 (by rw [hf3]; exact hi2) (by rw [hs2]; intro h0; rw [h0] at hb; simp at hb)
            rw [hf2] at this
            rw [hA]
            exact this
        · exact h.no.elim
      · exact h.no.elim
    · exact h.no.elim
  · -- field
    rename_i T x f ho
    split at h
    · rename_i v fs _ _ _ hx ht
      split at h
      · rename_i dd ft hft
        split at h
        · rename_i t2 ht2
          split at h
          · rename_i cs hcs
            split at h
            · rename_i r hr
              obtain ⟨h3, h4⟩ := ev_val hs hx
              obtain ⟨d1, hd1, ht1⟩ := und_of (hT _ _ ht)
              obtain ⟨fl, rfl, rfl⟩ := td_stc ht1
              obtain ⟨fl1, hf1, hf2, hf3⟩ := field_of hft
              have hag : val ρ v = .agg (valL ρ cs).toArray ∧ labL s.nx cs := by
                unfold aggCells at hcs
                split at hcs
                · simp at hcs; subst hcs; exact ⟨rfl, h4⟩
                · simp at hcs; subst hcs
                  refine ⟨by simp [val, valL_map, Function.comp_def], ?_⟩
                  rw [labL_iff]; intro z hz
                  obtain ⟨q, _, rfl⟩ := List.mem_map.1 hz
                  trivial
                · simp at hcs
              refine (pure_op hs (takeAt_lab hr hag.2) h (by unfold execOp; rw [ho]) ?_).wp hk
              rw [h3, hag.1]
              simp only [Instr.field, bind]
              rw [run_bind_pure (run_und hd1)]
              simp only [hf1]
              rw [run_bind_pure (show (asAgg (.agg (valL ρ cs).toArray)).run C.P w = .ok (valL ρ cs).toArray w from rfl)]
              have := takeAt_part (P := C.P) (w := w) (ρ := ρ) (hT _ _ ht2) hr
              rw [← hf2] at this
              rw [hf3]
              exact this
            · exact h.no.elim
          · exact h.no.elim
        · exact h.no.elim
      · exact h.no.elim
    · exact h.no.elim
  · -- indexAddr
    rename_i T x i ho
    split at h
    · rename_i ad len _ _ n e _ _ _ hx hi ht
      split at h
      · rename_i t2 ht2
        obtain ⟨h1, h2, h2b, h⟩ := h
        obtain ⟨ad, rfl⟩ := Option.isSome_iff_exists.1 h2b
        rw [hA] at h2
        have h2 : n < (len : Int) := h2
        have h3 := (ev_val hs hx).1
        have h4 := (ev_val hs hi).1
        obtain ⟨d1, hd1, ht1⟩ := und_of (hT _ _ ht)
        obtain rfl := td_slc ht1
        obtain ⟨i2, d2, hi2, hd2, hz2, hs2, htd2, hg2⟩ := tyOf_parts (hT _ _ ht2)
        refine (pure_op hs (v := .v (.pointer (some (C.A.elem (some ad) n t2.size)))) trivial h (by unfold execOp; rw [ho]) ?_).wp hk
        rw [h3, h4]
        simp only [Instr.indexAt, bind, val, asIntOf, pure, Sem.bind]
        rw [run_bind_pure (run_und hd1)]
        simp only [Sem.bind]
        rw [run_bind_pure (run_und hd1)]
        rw [if_pos ⟨h1, h2⟩, run_bind_pure (run_size hi2), hs2, hA]
        simp [Sem.run, Ar.real]
      · exact h.no.elim
    · rename_i l off _ n len e _ _ _ hx hi ht
      split at h
      · rename_i t2 ht2
        cases hb : Nat.blt n len with
        | false => simp only [hb, cond_false] at h; exact h.no.elim
        | true =>
          simp only [hb, cond_true] at h
          have hlt : n < len := Nat.le_of_ble_eq_true hb
          obtain ⟨h3, h5⟩ := ev_val hs hx
          have h4 := (ev_val hs hi).1
          obtain ⟨d1, hd1, ht1⟩ := und_of (hT _ _ ht)
          obtain rfl := td_arr ht1
          obtain ⟨i2, d2, hi2, hd2, hz2, hs2, htd2, hg2⟩ := tyOf_parts (hT _ _ ht2)
          refine (pure_op hs (v := .p l (off + n * t2.size)) h5 h (by unfold execOp; rw [ho]) ?_).wp hk
          rw [h3, h4]
          simp only [Instr.indexAt, bind, val, asIntOf, pure, Sem.bind]
          rw [run_bind_pure (run_und hd1)]
          simp only
          simp only [Instr.sureAddr, pure, Sem.bind]
          rw [run_bind_pure (run_und hd1)]
          rw [if_pos ⟨Int.natCast_nonneg n, by simpa using hlt⟩, run_bind_pure (run_size hi2), hs2]
          simp [Sem.run, cell_add]
      · exact h.no.elim
    · exact h.no.elim
  · -- typeAssert
    rename_i x X T ho
    have ta : ∀ {t : Ty} {u : Nat} {v y r : SV} , C.ty T = some t → isIfc t.d = false → s.ev x = some v → val ρ v = .iface u (val ρ y) → lab s.nx y →
        r = (bif Nat.beq u T then .tu [y, .v (.bool true)] else .tu [.v t.zero, .v (.bool false)]) → s.put C o.dst r K → o.wp C.P a w next Q := by
      intro t u v y r ht hi hx hv hl hr hp
      obtain ⟨h3, h4⟩ := ev_val hs hx
      obtain ⟨i2, d2, hi2, hd2, hz2, hs2, htd2, hg2⟩ := tyOf_parts (hT _ _ ht)
      have hne : ∀ m, d2 ≠ .interface m := fun m he => by rw [he] at htd2; rw [← htd2] at hi; simp [tdOf, isIfc] at hi
      have hlr : lab s.nx r := by rw [hr]; cases Nat.beq u T <;> simp [lab, labL, hl]
      refine (pure_op hs hlr hp (by unfold execOp; rw [ho]) ?_).wp hk
      rw [h3, hv, hr]
      simp only [Instr.typeAssert, bind]
      rw [run_bind_pure (run_und hd2)]
      by_cases he : u = T
      · subst he
        have hb : Nat.beq u u = true := Nat.beq_refl u
        cases d2 <;> first | (exact absurd rfl (hne _)) | (simp [hb, val, valL, run_pure, pure, Sem.run])
      · have hb : Nat.beq u T = false := by
          cases hbb : Nat.beq u T with
          | false => rfl
          | true => exact absurd (Nat.eq_of_beq_eq_true hbb) he
        cases d2 <;> first | (exact absurd rfl (hne _)) | (simp only [he, if_false, if_true, hb, cond_false]; rw [run_bind_pure (run_zero hi2 hz2)]; simp [val, valL, pure, Sem.run])
    split at h
    · rename_i t ht hx
      cases hi : isIfc t.d with
      | true => simp only [hi, cond_true] at h; exact h.no.elim
      | false =>
        simp only [hi, cond_false] at h
        obtain ⟨h3, h4⟩ := ev_val hs hx
        obtain ⟨i2, d2, hi2, hd2, hz2, hs2, htd2, hg2⟩ := tyOf_parts (hT _ _ ht)
        have hne : ∀ m, d2 ≠ .interface m := fun m he => by rw [he] at htd2; rw [← htd2] at hi; simp [tdOf, isIfc] at hi
        refine (pure_op hs (v := .tu [.v t.zero, .v (.bool false)]) (by simp [lab, labL]) h (by unfold execOp; rw [ho]) ?_).wp hk
        rw [h3]
        simp only [Instr.typeAssert, bind, val]
        rw [run_bind_pure (run_und hd2)]
        cases d2 <;> first | (exact absurd rfl (hne _)) | (simp only [if_true]; rw [run_bind_pure (run_zero hi2 hz2)]; simp [valL, val, pure, Sem.run])
    · rename_i t u y ht hx
      cases hi : isIfc t.d with
      | true => simp only [hi, cond_true] at h; exact h.no.elim
      | false =>
        simp only [hi, cond_false] at h
        refine ta ht hi hx (y := .v y) rfl trivial rfl ?_
        cases hb : Nat.beq u T <;> simpa [hb] using h
    · rename_i t u y ht hx
      cases hi : isIfc t.d with
      | true => simp only [hi, cond_true] at h; exact h.no.elim
      | false =>
        simp only [hi, cond_false] at h
        refine ta ht hi hx (y := y) rfl (ev_val hs hx).2 rfl ?_
        cases hb : Nat.beq u T <;> simpa [hb] using h
    · exact h.no.elim
  · -- extract
    rename_i x i ho
    split at h
    · rename_i xs hx
      split at h
      · rename_i v hv
        obtain ⟨h3, h4⟩ := ev_val hs hx
        refine (pure_op hs ((labL_iff _ _).1 h4 v (List.mem_of_getElem? hv)) h (by unfold execOp; rw [ho]) ?_).wp hk
        rw [h3]
        simp [Instr.extract, val, valL_map, hv, run_pure]
      · exact h.no.elim
    · rename_i xs hx
      split at h
      · rename_i v hv
        obtain ⟨h3, h4⟩ := ev_val hs hx
        refine (pure_op hs (v := .v v) trivial h (by unfold execOp; rw [ho]) ?_).wp hk
        rw [h3]
        have : xs[i]? = some v := by rw [← Array.getElem?_toList]; exact hv
        simp [Instr.extract, val, this, run_pure]
      · exact h.no.elim
    · exact h.no.elim
  · -- call
    rename_i c ho
    split at h
    · rename_i f hc
      split at h
      · rename_i vs hv
        obtain ⟨h1, h2⟩ := evs_val hs hv
        obtain ⟨⟨g, hg1, hg2, hg3⟩, hgo⟩ := h
        have hcall := hgo ρ w hs.hr
        have hrun : (execOp a.eval o).run C.P w = .ok (.enter f (valL ρ vs).toArray) w := by
          unfold execOp; rw [ho]; simp only
          have hargs : c.args.map a.eval = (valL ρ vs).toArray := by
            apply Array.ext'
            rw [Array.toList_map, h1]
          simp only [resolve, hc, Act.eval, Deferred.ofValue, bind, pure, Sem.bind, invoke, callFunc, program, Sem.run]
          simp only [hg1, hargs]
          have hn : (g.name == "runtime.NumGoroutine") = false := by simpa using hg2
          have hb : g.body.isNone = false := by cases hgb : g.body <;> simp_all
          simp [hn, hb, Sem.run]
        unfold Oper.wp
        rw [hrun]
        simp only [Oper.upon]
        refine hcall.mono fun e w' hpost => ?_
        obtain ⟨R', hp', nx', ρ', r, q1, q2, q3, q4, q5, q6, q7, q8, q9, q10⟩ := hpost
        subst q8
        have hss : SRel C E { s with R := R', hp := hp', nx := nx' } ρ' a w' := by
          refine ⟨?_, hs.sz, hs.df, q6, ?_, Nat.le_trans hs.nx q2, ?_, ?_, fun b ob hb => q4 _ _ (hs.rle _ _ hb), ?_⟩
          · intro t x hf
            obtain ⟨f1, f2⟩ := hs.fr t x hf
            exact ⟨by rw [f1, val_agree q1 x f2], lab_mono q2 x f2⟩
          · intro l hl
            have := hs.nx
            rw [q1 l (by omega)]
            exact hs.ag l hl
          · refine hs.kp.trans q7 fun x hx he => ?_
            obtain ⟨l, hl, rfl⟩ := he
            rcases Nat.lt_or_ge l E.n with h' | h'
            · exact ⟨l, h', hs.ag l h'⟩
            · have := hs.nw l h' hl; omega
          · intro l hl hl'
            rcases Nat.lt_or_ge l s.nx with h' | h'
            · rw [q1 l h']; exact hs.nw l hl h'
            · have := q3 l h' hl'
              have := hs.kp.size
              omega
          · intro b ob hb
            rcases q5 b ob hb with h' | h'
            · exact hs.rfr b ob h'
            · have := hs.kp.size
              exact .inr (by omega)
        obtain ⟨s', k1, k2⟩ := put_sound q10 hss q9
        exact hk _ _ _ _ k1 k2
      · exact h.no.elim
    · rename_i hc
      split at h
      · rename_i x hv
        obtain ⟨h1, h2⟩ := evs_val hs hv
        have hargs : c.args.map a.eval = (valL ρ [x]).toArray := by
          apply Array.ext'
          rw [Array.toList_map, h1]
        have hlen : ∀ {n : Int} {t : Nat} {d : TypeDesc}, c.argTypes[0]? = some t → C.P.underlying t = some d →
            (Builtin.len_ c.argTypes o.type #[val ρ x]).run C.P w = .ok (goInt n) w → (execOp a.eval o).run C.P w = .ok (.value (goInt n)) w := by
          intro n t d ht hd hr
          unfold execOp; rw [ho]; simp only
          simp only [resolve, hc, bind, pure, Sem.bind, invoke, builtin, hargs, valL]
          rw [run_bind_pure hr]
          rfl
        unfold lenVC at h
        split at h
        · rename_i D _ e _ _ _ ad n cap hD
          obtain ⟨t, ht, htt⟩ := Option.bind_eq_some_iff.1 hD
          obtain ⟨d1, hd1, ht1⟩ := und_of (hT _ _ htt)
          obtain rfl := td_slc ht1
          refine (does_here hs (v := natI C n) trivial h ?_).wp hk
          rw [hnat]
          refine hlen ht hd1 ?_
          simp only [Builtin.len_, ht, bind]
          simp only [List.getElem?_toArray, List.getElem?_cons_zero, val]
          rw [run_bind_pure (run_und hd1)]
          rfl
        · rename_i D _ _ _ _ str hD
          obtain ⟨t, ht, htt⟩ := Option.bind_eq_some_iff.1 hD
          obtain ⟨d1, hd1, ht1⟩ := und_of (hT _ _ htt)
          obtain rfl := td_str ht1
          refine (does_here hs (v := natI C (C.A.ssize str)) trivial h ?_).wp hk
          rw [hnat]
          refine hlen ht hd1 ?_
          simp only [Builtin.len_, ht, bind]
          simp only [List.getElem?_toArray, List.getElem?_cons_zero, val]
          rw [run_bind_pure (run_und hd1), hA]
          rfl
        · rename_i D _ e _ _ _ l off n cap hD
          obtain ⟨t, ht, htt⟩ := Option.bind_eq_some_iff.1 hD
          obtain ⟨d1, hd1, ht1⟩ := und_of (hT _ _ htt)
          obtain rfl := td_slc ht1
          refine (does_here hs (v := natI C n) trivial h ?_).wp hk
          rw [hnat]
          refine hlen ht hd1 ?_
          simp only [Builtin.len_, ht, bind]
          simp only [List.getElem?_toArray, List.getElem?_cons_zero, val]
          rw [run_bind_pure (run_und hd1)]
          rfl
        · rename_i D _ n e _ _ _ hD
          obtain ⟨t, ht, htt⟩ := Option.bind_eq_some_iff.1 hD
          obtain ⟨d1, hd1, ht1⟩ := und_of (hT _ _ htt)
          obtain rfl := td_arr ht1
          refine (does_here hs (v := natI C n) trivial h ?_).wp hk
          rw [hnat]
          refine hlen ht hd1 ?_
          simp only [Builtin.len_, ht, bind]
          simp only [List.getElem?_toArray, List.getElem?_cons_zero]
          rw [run_bind_pure (run_und hd1)]
          rfl
        · exact h.elim
      · exact h.no.elim
    · exact h.no.elim
  · exact h.no.elim
end
end Go.Se
