/- The evaluator is sound: regions that draw their order. -/
import Derived.Test.YtepfbdfbfimefaaDoorSj
import Derived.Deep.RegionHeld3
set_option linter.unusedSimpArgs false
set_option linter.unusedVariables false
namespace Go.Se
open Go

section
variable {P : Program} {ops : Array Oper} {Q : Exit → Act → World → Prop} {md : Region.Mode} {tl : Nat → Bool}

/-- Whatever order is picked from here on; and S holds behind each operation, till one of the tail comes up. -/
def anyG (P : Program) (md : Region.Mode) (ops : Array Oper) (Q : Exit → Act → World → Prop) (tl : Nat → Bool) : (World → Prop) → Nat → Array Bool → Act → World → Prop
  | _, 0, listed, a, w => Region.ready md ops listed = [] ∧ Q .normal a w
  | S, fuel + 1, listed, a, w =>
    (Region.ready md ops listed = [] → Q .normal a w) ∧
    ∀ i ∈ Region.ready md ops listed, wpOp P ops Q i (fun a' w' => (tl i = false → S w') ∧ anyG P md ops Q tl (fun w => tl i = false → S w) fuel (listed.setIfInBounds i true) a' w') a w

theorem anyG_mono : ∀ (fuel : Nat) {S S' : World → Prop} (_ : ∀ w, S w → S' w) (listed : Array Bool) (a : Act) (w : World), anyG P md ops Q tl S fuel listed a w → anyG P md ops Q tl S' fuel listed a w
  | 0, _, _, _, _, _, _, hh => hh
  | fuel + 1, _, _, h, _, _, _, hh => ⟨hh.1, fun i hi => wpOp_mono (fun a' w' h' => ⟨fun hr => h _ (h'.1 hr), anyG_mono fuel (fun w hw hr => h w (hw hr)) _ a' w' h'.2⟩) (hh.2 i hi)⟩

theorem wpAny_of_anyG : ∀ (fuel : Nat) {S : World → Prop} (listed : Array Bool) (a : Act) (w : World), anyG P md ops Q tl S fuel listed a w → wpAny P md ops Q fuel listed a w
  | 0, _, _, _, _, h => h
  | fuel + 1, _, _, _, _, h => ⟨h.1, fun i hi => wpOp_mono (fun a' w' h' => wpAny_of_anyG fuel _ a' w' h'.2) (h.2 i hi)⟩

/-- What has come up has come up behind what it waits for. -/
def clo (md : Region.Mode) (ops : Array Oper) (L : Array Bool) : Prop := ∀ k o, ops[k]? = some o → L.getD k false = true → ∀ e ∈ o.after, Region.binds md e = true → L.getD e.on false = true

theorem clo_set {L : Array Bool} {j : Nat} (h : clo md ops L) (hj : j ∈ Region.ready md ops L) : clo md ops (L.setIfInBounds j true) := by
  intro k o ho hk e he hb
  by_cases hkj : j = k
  · subst hkj
    obtain ⟨_, o', ho', hall⟩ := mem_ready.1 hj
    rw [ho] at ho'
    simp only [Option.some.injEq] at ho'
    subst ho'
    exact getD_set_true (hall e he hb)
  · rw [getD_set_ne false hkj] at hk
    exact getD_set_true (h k o ho hk e he hb)

theorem waitsB_spec {m k : Nat} (h : waitsB md ops m k = true) : ∃ o, ops[m]? = some o ∧ ∃ e ∈ o.after, Region.binds md e = true ∧ e.on = k := by
  unfold waitsB at h
  cases ho : ops[m]? with
  | none => simp [ho] at h
  | some o =>
    simp only [ho, Option.map_some, Option.getD_some] at h
    rw [Array.any_eq_true] at h
    obtain ⟨i, hi, h4⟩ := h
    simp only [Bool.and_eq_true, beq_iff_eq] at h4
    exact ⟨o, rfl, o.after[i], Array.getElem_mem hi, h4.1, h4.2⟩

theorem ancs_path {t : Nat} {L : Array Bool} (hc : clo md ops L) : ∀ (d : Nat) (k : Nat), k ∈ ancs md ops t d → k ≠ t → ¬ L.getD k false = true → t ∉ Region.ready md ops L
  | 0, k, hk, hkt, _ => by simp [ancs] at hk; exact absurd hk hkt
  | d + 1, k, hk, hkt, hL => by
    simp only [ancs] at hk
    split at hk
    · rename_i h1
      rcases List.mem_cons.1 hk with rfl | hk
      · rw [List.any_eq_true] at h1
        obtain ⟨m, hm, h2⟩ := h1
        obtain ⟨o, ho, e, he, hb, hon⟩ := waitsB_spec h2
        intro ht
        by_cases hmt : m = t
        · subst hmt
          obtain ⟨_, o', ho', hall⟩ := mem_ready.1 ht
          rw [ho] at ho'
          simp only [Option.some.injEq] at ho'
          subst ho'
          have := hall e he hb
          rw [hon] at this
          exact hL this
        · refine ancs_path hc d m hm hmt (fun hx => ?_) ht
          have := hc m _ ho hx e he hb
          rw [hon] at this
          exact hL this
      · exact ancs_path hc d k hk hkt hL
    · exact ancs_path hc d k hk hkt hL

/-- What yields one value wherever S holds may be taken first. -/
theorem anyG_first {S : World → Prop} {i : Nat} {oi : Oper} {v : Value} (hi : ops[i]? = some oi) (hsel : ∀ (j : Nat) (o : Oper) cs b, ops[j]? = some o → o.op ≠ .select cs b)
    (hQ : ∀ c a w, Q (.panic c) (a.put oi.dst v) w → Q (.panic c) a w) (hit : tl i = false) (htl : ∀ L, clo md ops L → L.getD i true = false → ∀ t, tl t = true → t ∉ Region.ready md ops L) :
    ∀ (fuel : Nat) (listed : Array Bool) (a : Act) (w : World), clo md ops listed →
      (∀ j oj, ops[j]? = some oj → j ≠ i → listed.getD j true = false → (∀ e ∈ oj.after, Region.binds md e = true → e.on ≠ i) → oi.apart ops oj = true) →
      i ∈ Region.ready md ops listed → YieldsIf P ops S oi v a → S w →
      anyG P md ops Q tl S fuel (listed.setIfInBounds i true) (a.put oi.dst v) w → anyG P md ops Q tl S (fuel + 1) listed a w := by
  intro fuel
  induction fuel with
  | zero =>
    intro listed a w _ _ hr hy hS H
    refine ⟨fun h => (by rw [h] at hr; cases hr), fun j hj => ?_⟩
    by_cases hji : j = i
    · subst hji; exact hy.wpOp hi hS ⟨fun _ => hS, H⟩
    · have := ready_mono hj hji
      rw [H.1] at this
      cases this
  | succ fuel ih =>
    intro listed a w hcl hfree hr hy hS H
    refine ⟨fun h => (by rw [h] at hr; cases hr), fun j hj => ?_⟩
    by_cases hji : j = i
    · subst hji; exact hy.wpOp hi hS ⟨fun _ => hS, anyG_mono _ (fun w hw _ => hw) _ _ _ H⟩
    · have h1 := H.2 j (ready_mono hj hji)
      have hjt : tl j = false := by
        cases ht : tl j with
        | false => rfl
        | true => exact absurd hj (htl listed hcl (mem_ready.1 hr).1 j ht)
      obtain ⟨hjun, oj, hoj, hall⟩ := mem_ready.1 hj
      have hnot : ∀ e ∈ oj.after, Region.binds md e = true → e.on ≠ i := fun e he hb heq => by
        have h1 := hall e he hb
        have h0 := (mem_ready.1 hr).1
        rw [heq] at h1
        rcases Nat.lt_or_ge i listed.size with h' | h'
        · simp [h'] at h0 h1; rw [h0] at h1; cases h1
        · simp [Array.getElem?_eq_none h'] at h1
      have h2 := wpOp_putIf hoj (hfree j oj hoj hji hjun hnot) (fun cs b => hsel i oi cs b hi) (fun cs b => hsel j oj cs b hoj) hQ hy h1
      have hfree' : ∀ k ok, ops[k]? = some ok → k ≠ i → (listed.setIfInBounds j true).getD k true = false →
          (∀ e ∈ ok.after, Region.binds md e = true → e.on ≠ i) → oi.apart ops ok = true := fun k ok hk hki hun hno => by
        refine hfree k ok hk hki ?_ hno
        by_cases hjk : j = k
        · subst hjk; exact hjun
        · rw [getD_set_ne true hjk] at hun; exact hun
      refine wpOp_mono (fun a' w' h3 => ?_) h2
      obtain ⟨k1, k2, k3⟩ := h3
      refine ⟨fun _ => k2 hjt, anyG_mono _ (fun w hw _ => hw) _ _ _ (ih (listed.setIfInBounds j true) a' w' (clo_set hcl hj) hfree' (ready_mono hr (Ne.symm hji)) k1 (k2 hjt) ?_)⟩
      rw [Array.setIfInBounds_comm _ _ hji]
      exact anyG_mono _ (fun w hw => hw hjt) _ _ _ k3

/-- What yields one value anywhere may be taken first. -/
theorem anyG_pure {i : Nat} {oi : Oper} {v : Value} (hi : ops[i]? = some oi) (hsel : ∀ (j : Nat) (o : Oper) cs b, ops[j]? = some o → o.op ≠ .select cs b)
    (hQ : ∀ c a w, Q (.panic c) (a.put oi.dst v) w → Q (.panic c) a w) :
    ∀ (fuel : Nat) (S : World → Prop) (listed : Array Bool) (a : Act) (w : World),
      (∀ j oj, ops[j]? = some oj → j ≠ i → listed.getD j true = false → (∀ e ∈ oj.after, Region.binds md e = true → e.on ≠ i) → oi.apart ops oj = true) →
      i ∈ Region.ready md ops listed → YieldsIf P ops (fun _ => True) oi v a → S w →
      anyG P md ops Q tl S fuel (listed.setIfInBounds i true) (a.put oi.dst v) w → anyG P md ops Q tl S (fuel + 1) listed a w := by
  intro fuel
  induction fuel with
  | zero =>
    intro S listed a w _ hr hy hS H
    refine ⟨fun h => (by rw [h] at hr; cases hr), fun j hj => ?_⟩
    by_cases hji : j = i
    · subst hji; exact hy.wpOp hi trivial ⟨fun _ => hS, H⟩
    · have := ready_mono hj hji
      rw [H.1] at this
      cases this
  | succ fuel ih =>
    intro S listed a w hfree hr hy hS H
    refine ⟨fun h => (by rw [h] at hr; cases hr), fun j hj => ?_⟩
    by_cases hji : j = i
    · subst hji; exact hy.wpOp hi trivial ⟨fun _ => hS, anyG_mono _ (fun w hw _ => hw) _ _ _ H⟩
    · have h1 := H.2 j (ready_mono hj hji)
      obtain ⟨hjun, oj, hoj, hall⟩ := mem_ready.1 hj
      have hnot : ∀ e ∈ oj.after, Region.binds md e = true → e.on ≠ i := fun e he hb heq => by
        have h1 := hall e he hb
        have h0 := (mem_ready.1 hr).1
        rw [heq] at h1
        rcases Nat.lt_or_ge i listed.size with h' | h'
        · simp [h'] at h0 h1; rw [h0] at h1; cases h1
        · simp [Array.getElem?_eq_none h'] at h1
      have h2 := wpOp_putIf hoj (hfree j oj hoj hji hjun hnot) (fun cs b => hsel i oi cs b hi) (fun cs b => hsel j oj cs b hoj) hQ hy h1
      have hfree' : ∀ k ok, ops[k]? = some ok → k ≠ i → (listed.setIfInBounds j true).getD k true = false →
          (∀ e ∈ ok.after, Region.binds md e = true → e.on ≠ i) → oi.apart ops ok = true := fun k ok hk hki hun hno => by
        refine hfree k ok hk hki ?_ hno
        by_cases hjk : j = k
        · subst hjk; exact hjun
        · rw [getD_set_ne true hjk] at hun; exact hun
      refine wpOp_mono (fun a' w' h3 => ?_) h2
      obtain ⟨k1, k2, k3⟩ := h3
      refine ⟨k2, ih _ (listed.setIfInBounds j true) a' w' hfree' (ready_mono hr (Ne.symm hji)) k1 k2 ?_⟩
      rw [Array.setIfInBounds_comm _ _ hji]
      exact k3
end

section
variable {C : Cx} {E : En}

theorem wkF_find {fr : List (Nat × SV)} : ∀ {t : List (Nat × SV)}, WkF fr t → ∀ k x, find t k = some x → find fr k = some x
  | [], _, k, x, h => by simp [find] at h
  | (j, y) :: r, hw, k, x, h => by
    simp only [find_cons] at h
    by_cases he : j = k
    · subst he; simp at h; subst h; exact hw.1
    · simp only [he, if_false] at h; exact wkF_find hw.2 k x h

theorem wkH_find {fr : List (Nat × HB)} : ∀ {t : List (Nat × HB)}, WkH fr t → ∀ k x, find t k = some x → find fr k = some x
  | [], _, k, x, h => by simp [find] at h
  | (j, y) :: r, hw, k, x, h => by
    simp only [find_cons] at h
    by_cases he : j = k
    · subst he; simp at h; subst h; exact hw.1
    · simp only [he, if_false] at h; exact wkH_find hw.2 k x h


/-- What fitted an earlier state fits on. -/
theorem HRel.weak {s s' : St} {ρ ρ' : Nat → Nat} {w w' : World} (h : HRel s.R s.hp s.nx s.rw_ ρ w) (ha : Adv s s' ρ ρ') (hh : ∀ k x, find s.hp k = some x → find s'.hp k = some x) (hr : ∀ r ∈ s.rw_, r ∈ s'.rw_)
    (h' : HRel s'.R s'.hp s'.nx s'.rw_ ρ' w') : HRel s.R s.hp s.nx s.rw_ ρ w' := by
  refine ⟨?_, h.inj, ?_, fun b o hb => h'.ro b o (ha.le b o hb), h.dis, h.wf, fun r hx => h'.row r (hr r hx), h.rdis, h.rpair⟩
  · intro l b hb
    obtain ⟨h1, h2⟩ := h.wf l b hb
    have := h'.blk l b (hh _ _ hb)
    rw [ha.ag l h1, valL_agree ha.ag _ h2] at this
    exact this
  · intro l hl
    have := h'.lt l (Nat.lt_of_lt_of_le hl ha.nx)
    rwa [ha.ag l hl] at this

theorem put_hp {s : St} {d : Option Tmp} {v : SV} {K : St → Prop} (h : s.put C d v K) : s.put C d v fun s' => K s' ∧ s'.hp = s.hp ∧ s'.rw_ = s.rw_ := by
  cases d with
  | none => simpa [St.put] using h
  | some d =>
    simp only [St.put] at h ⊢
    cases hb : Nat.blt d C.n with
    | false => simp [hb] at h
    | true => simp only [hb, cond_true] at h ⊢; exact ⟨h, trivial, trivial⟩

/-- Operations that read no memory: one value, in every world. -/
theorem op_pure (hA : C.A = .real) (hT : TysOk C.P C.ty) {s : St} {ρ : Nat → Nat} {a : Act} {w : World} (hs : SRel C E s ρ a w) {o : Oper} {K : St → Prop} (h : opVQ C s o K) (hq : pureK o.op = true) :
    ∃ v, lab s.nx v ∧ s.put C o.dst v K ∧ ∀ w' : World, (execOp a.eval o).run C.P w' = .ok (.value (val ρ v)) w' := by
  have mk : ∀ {v : SV}, lab s.nx v → s.put C o.dst v K → (∀ w' : World, (execOp a.eval o).run C.P w' = .ok (.value (val ρ v)) w') →
    ∃ v, lab s.nx v ∧ s.put C o.dst v K ∧ ∀ w' : World, (execOp a.eval o).run C.P w' = .ok (.value (val ρ v)) w' := fun {v} h1 h2 h3 => ⟨v, h1, h2, h3⟩
  have mkp : ∀ {v : SV} {e : Sem Value}, lab s.nx v → s.put C o.dst v K → execOp a.eval o = (do pure (Next.value (← e))) → (∀ w' : World, e.run C.P w' = .ok (val ρ v) w') →
    ∃ v, lab s.nx v ∧ s.put C o.dst v K ∧ ∀ w' : World, (execOp a.eval o).run C.P w' = .ok (.value (val ρ v)) w' := fun {v e} h1 h2 he h3 => ⟨v, h1, h2, fun w' => by rw [he]; exact run_v (h3 w')⟩
  unfold opVQ at h
  split at h
  all_goals first
    | (exfalso; rename_i ho; rw [ho] at hq; simp [pureK] at hq; done)
    | skip
  · rename_i x ho
    split at h
    · rename_i v hv
      obtain ⟨h1, h2⟩ := ev_val hs hv
      exact mk h2 h fun w' => by unfold execOp; rw [ho]; simp only; rw [h1]; rfl
    · exact h.no.elim
  · rename_i x ho
    split at h
    · rename_i v hv
      obtain ⟨h1, h2⟩ := ev_val hs hv
      exact mk h2 h fun w' => by unfold execOp; rw [ho]; simp only; rw [h1]; rfl
    · exact h.no.elim
  · rename_i x ho
    split at h
    · rename_i ad hx
      have h3 := (ev_val hs hx).1
      exact mk (v := .v (.pointer (some ad))) trivial h fun w' => by unfold execOp; rw [ho]; simp only; rw [h3]; rfl
    · rename_i l off hx
      obtain ⟨h3, h4⟩ := ev_val hs hx
      exact mk h4 h fun w' => by unfold execOp; rw [ho]; simp only; rw [h3]; rfl
    · rename_i f xs ys hx
      exact mk (ev_val hs hx).2 h.rest fun w' => h.go ρ w' a.eval fun x v hv => (ev_val hs hv).1
    · rename_i f xs ys hx
      exact mk (v := .v (.func f xs ys)) trivial h.rest fun w' => h.go ρ w' a.eval fun x v hv => (ev_val hs hv).1
    · exact h.no.elim
  · rename_i f xs ys ho
    split at h
    · rename_i va vb ha hb
      obtain ⟨a1, a2⟩ := evs_val hs ha
      obtain ⟨b1, b2⟩ := evs_val hs hb
      exact mk (lab_mkFn a2 b2) h fun w' => by
        unfold execOp; rw [ho]; simp only
        refine run_v ?_
        have h1 : xs.map a.eval = (valL ρ va).toArray := by apply Array.ext'; rw [Array.toList_map, a1]
        have h2 : ys.map a.eval = (valL ρ vb).toArray := by apply Array.ext'; rw [Array.toList_map, b1]
        rw [h1, h2, val_mkFn]
        rfl
    · exact h.no.elim
  · rename_i T x lo hi ho
    rw [ho] at hq
    cases lo with
    | some _ => simp [pureK] at hq
    | none =>
      cases hi with
      | some _ => simp [pureK] at hq
      | none =>
        simp only [someO, Bool.or_self, Bool.false_and, cond_false] at h
        have bounds : ∀ {isS : Bool} {l h len cap : Nat}, (l : Int) = (none : Option Int).getD 0 → (h : Int) = (none : Option Int).getD len → l ≤ h → h ≤ cap →
            ∀ w', (Instr.sliceBounds isS len cap none none none).run C.P w' = .ok (l, h, cap) w' := by
          intro isS l h len cap h3 h4 h5 h6 w'
          have e1 : l = 0 := by simpa using h3
          have e2 : h = len := by
            have h4 : (h : Int) = (len : Int) := h4
            omega
          exact run_sliceBounds (k1 := .i64) (k2 := .i64) (.inl ⟨rfl, e1⟩) (.inl ⟨rfl, e2⟩) h5 h6
        split at h
        · rename_i e _ _ _ _ ad len cap l h' hD hx hl hh
          have hl : some none = some l := hl
          have hh : some none = some h' := hh
          simp only [Option.some.injEq] at hl hh
          subst hl
          subst hh
          split at h
          · rename_i t ht
            obtain ⟨l, h2, e1, e2, e3, e4, hK⟩ := h.go
            have h3 := (ev_val hs hx).1
            obtain ⟨d1, hd1, ht1⟩ := und_of (hT _ _ hD)
            obtain rfl := td_slc ht1
            obtain ⟨i2, d2, hi2, hd2, hz2, hs2, htd2, hg2⟩ := tyOf_parts (hT _ _ ht)
            refine mkp (v := .v (.slice (if cap = l then ad else ad.map (·.add (l * t.size))) (h2 - l) (cap - l))) trivial (hK _ _ _ rfl rfl rfl) (by unfold execOp; rw [ho]) fun w' => ?_
            rw [h3]
            simp only [Instr.sliceAt, Option.map_none, bind, val]
            rw [run_bind_pure (run_und hd1)]
            simp only [Instr.slice, bind]
            rw [run_bind_pure (run_und hd1)]
            simp only
            rw [run_bind_pure (bounds e1 e2 e3 e4 w')]
            simp only
            rw [run_bind_pure (run_size hi2), hs2]
            rfl
          · exact h.no.elim
        · rename_i _ _ _ _ b l h' hD hx hl hh
          have hl : some none = some l := hl
          have hh : some none = some h' := hh
          simp only [Option.some.injEq] at hl hh
          subst hl
          subst hh
          obtain ⟨l, h2, e1, e2, e3, e4, hK⟩ := h.go
          have h3 := (ev_val hs hx).1
          obtain ⟨d1, hd1, ht1⟩ := und_of (hT _ _ hD)
          obtain rfl := td_str ht1
          refine mkp (v := .v (.string (b.extract l h2))) trivial (hK _ rfl) (by unfold execOp; rw [ho]) fun w' => ?_
          rw [h3]
          simp only [Instr.sliceAt, Option.map_none, bind, val]
          rw [run_bind_pure (run_und hd1)]
          simp only [Instr.slice, bind]
          rw [run_bind_pure (run_und hd1)]
          simp only [Option.isSome_none, Bool.false_eq_true, if_false]
          rw [run_bind_pure (bounds e1 e2 e3 e4 w')]
          rfl
        · rename_i n e _ _ _ _ l off hD hx hl hh
          split at h
          · rename_i t ht
            obtain ⟨h3, h4⟩ := ev_val hs hx
            obtain ⟨d1, hd1, ht1⟩ := und_of (hT _ _ hD)
            obtain rfl := td_arr ht1
            obtain ⟨i2, d2, hi2, hd2, hz2, hs2, htd2, hg2⟩ := tyOf_parts (hT _ _ ht)
            refine mkp (v := .se l off n n) h4 h (by unfold execOp; rw [ho]) fun w' => ?_
            rw [h3]
            simp only [Instr.sliceAt, Option.map_none, bind, val]
            rw [run_bind_pure (run_und hd1)]
            simp only
            rw [run_bind_pure (run_sure _), run_bind_pure (bounds (l := 0) (h := n) (cap := n) (len := n) rfl rfl (Nat.zero_le _) (Nat.le_refl _) w')]
            simp only
            rw [run_bind_pure (run_size hi2)]
            simp [run_pure, cell_add]
          · exact h.no.elim
        · rename_i n e _ _ _ _ ad hD hx hl hh
          split at h
          · rename_i t ht
            obtain ⟨h3, h4⟩ := ev_val hs hx
            obtain ⟨d1, hd1, ht1⟩ := und_of (hT _ _ hD)
            obtain rfl := td_arr ht1
            obtain ⟨i2, d2, hi2, hd2, hz2, hs2, htd2, hg2⟩ := tyOf_parts (hT _ _ ht)
            refine mkp (v := .v (.slice (some ad) n n)) trivial h (by unfold execOp; rw [ho]) fun w' => ?_
            rw [h3]
            simp only [Instr.sliceAt, Option.map_none, bind, val]
            rw [run_bind_pure (run_und hd1)]
            simp only
            rw [run_bind_pure (run_sure _), run_bind_pure (bounds (l := 0) (h := n) (cap := n) (len := n) rfl rfl (Nat.zero_le _) (Nat.le_refl _) w')]
            simp only
            rw [run_bind_pure (run_size hi2)]
            simp [run_pure, Addr.add]
          · exact h.no.elim
        · exact h.no.elim
  · rename_i T x f ho
    split at h
    · rename_i l off fs _ _ _ _ hx ht
      split at h
      · rename_i dd ft hft
        split at h
        · rename_i t2 ht2
          cases hb : Nat.beq t2.size 0 with
          | true => simp only [hb, cond_true] at h; exact h.no.elim
          | false =>
            simp only [hb, cond_false] at h
            obtain ⟨h3, h4⟩ := ev_val hs hx
            obtain ⟨d1, hd1, ht1⟩ := und_of (hT _ _ ht)
            obtain ⟨fl, rfl, rfl⟩ := td_stc ht1
            obtain ⟨fl1, hf1, hf2, hf3⟩ := field_of hft
            obtain ⟨i2, d2, hi2, hd2, hz2, hs2, htd2, hg2⟩ := tyOf_parts (hT _ _ ht2)
            refine mkp (v := .p l (off + dd)) h4 h (by unfold execOp; rw [ho]) ?_
            intro w'
            rw [h3]
            have := run_fieldAt (w := w') (P := C.P) (ad := ⟨ρ l, off, none⟩) hd1 hf1 (by rw [hf3]; exact hi2) (by rw [hs2]; intro h0; rw [h0] at hb; simp at hb)
            rw [hf2, cell_add] at this
            exact this
        · exact h.no.elim
      · exact h.no.elim
    · rename_i ad fs _ _ _ _ hx ht
      split at h
      · rename_i dd ft hft
        split at h
        · rename_i t2 ht2
          cases hb : Nat.beq t2.size 0 with
          | true => simp only [hb, cond_true] at h; exact h.no.elim
          | false =>
            simp only [hb, cond_false] at h
            obtain ⟨h3, h4⟩ := ev_val hs hx
            obtain ⟨d1, hd1, ht1⟩ := und_of (hT _ _ ht)
            obtain ⟨fl, rfl, rfl⟩ := td_stc ht1
            obtain ⟨fl1, hf1, hf2, hf3⟩ := field_of hft
            obtain ⟨i2, d2, hi2, hd2, hz2, hs2, htd2, hg2⟩ := tyOf_parts (hT _ _ ht2)
            refine mkp (v := .v (.pointer (some (C.A.fld ad dd)))) trivial h (by unfold execOp; rw [ho]) ?_
            intro w'
            rw [h3]
            have := run_fieldAt (w := w') (P := C.P) (ad := ad) hd1 hf1 (by rw [hf3]; exact hi2) (by rw [hs2]; intro h0; rw [h0] at hb; simp at hb)
            rw [hf2] at this
            rw [hA]
            exact this
        · exact h.no.elim
      · exact h.no.elim
    · exact h.no.elim
  · rename_i x i ho
    split at h
    · rename_i xs hx
      split at h
      · rename_i v hv
        obtain ⟨h3, h4⟩ := ev_val hs hx
        refine mkp ((labL_iff _ _).1 h4 v (List.mem_of_getElem? hv)) h (by unfold execOp; rw [ho]) ?_
        intro w'
        rw [h3]
        simp [Instr.extract, val, valL_map, hv, run_pure]
      · exact h.no.elim
    · rename_i xs hx
      split at h
      · rename_i v hv
        obtain ⟨h3, h4⟩ := ev_val hs hx
        refine mkp (v := .v v) trivial h (by unfold execOp; rw [ho]) ?_
        intro w'
        rw [h3]
        have : xs[i]? = some v := by rw [← Array.getElem?_toList]; exact hv
        simp [Instr.extract, val, this, run_pure]
      · exact h.no.elim
    · exact h.no.elim
  · exfalso
    have n2 : ∀ T x lo hi, o.op = .slice T x lo hi none → False := by assumption
    unfold pureK at hq
    split at hq
    all_goals first
      | exact n2 _ _ _ _ (by assumption)
      | simp_all

/-- .. by their values. -/
theorem op_raw (hA : C.A = .real) (hT : TysOk C.P C.ty) {s : St} {ρ : Nat → Nat} {a : Act} {w : World} (hs : SRel C E s ρ a w) {o : Oper} {K : St → Prop} (h : opVQ C s o K) (hq : rawOp C s o.op = true) :
    ∃ v, lab s.nx v ∧ s.put C o.dst v K ∧ ∀ w' : World, (execOp a.eval o).run C.P w' = .ok (.value (val ρ v)) w' := by
  have mk : ∀ {v : SV}, lab s.nx v → s.put C o.dst v K → (∀ w' : World, (execOp a.eval o).run C.P w' = .ok (.value (val ρ v)) w') →
    ∃ v, lab s.nx v ∧ s.put C o.dst v K ∧ ∀ w' : World, (execOp a.eval o).run C.P w' = .ok (.value (val ρ v)) w' := fun {v} h1 h2 h3 => ⟨v, h1, h2, h3⟩
  unfold rawOp at hq
  split at hq
  · rename_i op T x y T' ho
    simp only [opVQ, ho] at h
    split at hq
    · rename_i u v hx hy
      simp only [hx, hy] at h
      obtain ⟨r, h1, h2⟩ := binVC_main hA hT hs ho hx hy (.inl ⟨_, _, rfl, rfl⟩) h
      exact mk (v := .v r) trivial h1 h2
    · cases hq
  · rename_i T x i ho
    split at hq
    · rename_i ad len cp kk n e z1 z2 z3 z4 hx hi ht
      simp only [opVQ, ho, hx, hi, ht] at h
      split at h
      · rename_i t2 ht2
        obtain ⟨h1, h2, h2b, h⟩ := h
        obtain ⟨ad, rfl⟩ := Option.isSome_iff_exists.1 h2b
        rw [hA] at h2
        have h2 : n < (len : Int) := h2
        have h3 := (ev_val hs hx).1
        have h4 := (ev_val hs hi).1
        obtain ⟨d1, hd1, ht1⟩ := und_of (hT _ _ ht)
        obtain rfl := td_slc ht1
        obtain ⟨i2, d2, hi2, hd2, hz2, hs2, htd2, hg2⟩ := tyOf_parts (hT _ _ ht2)
        refine mk (v := .v (.pointer (some (C.A.elem (some ad) n t2.size)))) trivial h (fun w' => ?_)
        unfold execOp
        rw [ho]
        simp only
        refine run_v ?_
        rw [h3, h4]
        simp only [Instr.indexAt, bind, val, asIntOf, pure, Sem.bind]
        rw [run_bind_pure (run_und hd1)]
        simp only [Sem.bind]
        rw [run_bind_pure (run_und hd1)]
        rw [if_pos ⟨h1, h2⟩, run_bind_pure (run_size hi2), hs2, hA]
        simp [Sem.run, Ar.real]
      · exact h.no.elim
    · rename_i ad kk n len e z1 z2 z3 z4 hx hi ht
      simp only [opVQ, ho, hx, hi, ht] at h
      split at h
      · rename_i t2 ht2
        obtain ⟨h1, h2, _, h⟩ := h
        rw [hA] at h2
        have h2 : n < (len : Int) := h2
        have h3 := (ev_val hs hx).1
        have h4 := (ev_val hs hi).1
        obtain ⟨d1, hd1, ht1⟩ := und_of (hT _ _ ht)
        obtain rfl := td_arr ht1
        obtain ⟨i2, d2, hi2, hd2, hz2, hs2, htd2, hg2⟩ := tyOf_parts (hT _ _ ht2)
        refine mk (v := .v (.pointer (some (C.A.elem (some ad) n t2.size)))) trivial h (fun w' => ?_)
        unfold execOp
        rw [ho]
        simp only
        refine run_v ?_
        rw [h3, h4]
        simp only [Instr.indexAt, bind, val, asIntOf, pure, Sem.bind]
        rw [run_bind_pure (run_und hd1)]
        simp only
        simp only [Instr.sureAddr, pure, Sem.bind]
        rw [run_bind_pure (run_und hd1)]
        rw [if_pos ⟨h1, h2⟩, run_bind_pure (run_size hi2), hs2, hA]
        simp [Sem.run, Ar.real]
      · exact h.no.elim
    · cases hq
  · rename_i c x y ho
    simp only [opVQ, ho] at h
    have pk : ∀ {b : Bool} {v : SV}, s.ev c = some (.v (.bool b)) → s.ev (if b then x else y) = some v → s.put C o.dst v K → ∃ v, lab s.nx v ∧ s.put C o.dst v K ∧ ∀ w' : World, (execOp a.eval o).run C.P w' = .ok (.value (val ρ v)) w' := by
      intro b v hc hv hp
      obtain ⟨h1, h2⟩ := ev_val hs hv
      have h3 := (ev_val hs hc).1
      refine mk h2 hp ?_
      intro w'
      unfold execOp; rw [ho]; simp only; rw [h3]
      cases b <;> simp_all [val, asBool, bind, pure, Sem.bind, Sem.run]
    split at h
    · rename_i b y' z hc h1 h2
      cases b <;> simp only [br, cond_true, cond_false] at h
      · exact pk hc h2 h
      · exact pk hc h1 h
    · rename_i b y' hc h1 h2
      obtain ⟨hb, h⟩ := h
      subst hb
      exact pk hc h1 h
    · rename_i b z hc h1 h2
      obtain ⟨hb, h⟩ := h
      subst hb
      exact pk hc h2 h
    · exact h.no.elim
  · cases hq

/-- The tail, without operations that are told to read no memory. -/
def tlB (ops : Array Oper) (tl : List Nat) (i : Nat) : Bool := memN tl i && (match ops[i]? with
  | some o => !quietK o.op
  | none => false)

theorem opVT_q {C : Cx} {s : St} {o : Oper} {i : Nat} {tl : List Nat} {K : St → Prop} (h : opVT C s o i tl K) : opVQ C s o K ∧ (quietK o.op = true → memN tl i = true → rawOp C s o.op = true) := by
  unfold opVT at h
  cases hb : (quietK o.op && memN tl i && !rawOp C s o.op) with
  | true => rw [hb] at h; exact h.elim
  | false =>
    rw [hb] at h
    refine ⟨h, fun h1 h2 => ?_⟩
    simpa [h1, h2] using hb

abbrev nextK (C : Cx) (o : Oper) (i : Nat) (tl : List Nat) (s : St) (K : St → Prop) : St → Prop := fun s' => (bif quietK o.op || memN tl i then (fun _ => K s') else fun _ : Unit => Chk (fun _ => WkH s'.hp s.hp ∧ s.rw_.Sublist s'.rw_) (K s')) ()

theorem nextK_q {C : Cx} {o : Oper} {i : Nat} {tl : List Nat} {s : St} {K : St → Prop} (hq : quietK o.op = true) : nextK C o i tl s K = K := by
  funext s'
  simp only [nextK, hq, Bool.true_or, cond_true]

theorem draw_key {ops : Array Oper} {tl : List Nat} {i : Nat} {o : Oper} (ho : ops[i]? = some o) {K : St → Prop} {s : St} {ρ : Nat → Nat} {a : Act} {w : World} (h : drawStep C ops tl i s K) (hs : SRel C E s ρ a w) :
    (opVT C s o i tl (nextK C o i tl s K) ∧ Region.wanted o (yielded ops a.tmps) = true) ∨ (s.put C o.dst (.v undef) K ∧ Region.wanted o (yielded ops a.tmps) = false) := by
  unfold drawStep at h
  simp only [ho] at h
  cases hg : o.guard with
  | none =>
    simp only [hg] at h
    exact .inl ⟨h, by simp [Region.wanted, hg]⟩
  | some jw =>
    obtain ⟨j, want⟩ := jw
    simp only [hg] at h
    split at h
    · rename_i g hgd
      have hy : yielded ops a.tmps j = some g := by
        unfold guardOf at hgd
        cases hj : ops[j]? with
        | none => simp [hj] at hgd
        | some oj =>
          simp only [hj] at hgd
          cases hd : oj.dst with
          | none => simp [hd] at hgd
          | some d =>
            simp only [hd] at hgd
            have := (hs.fr d _ hgd).1
            simp [yielded, hj, hd, this, val]
      have hw : Region.wanted o (yielded ops a.tmps) = (g == want) := by simp [Region.wanted, hg, hy]
      rw [hw]
      cases want <;> cases g <;> simp only [br, cond_true, cond_false] at h
      · exact .inl ⟨h, by decide⟩
      · exact .inr ⟨h, by decide⟩
      · exact .inr ⟨h, by decide⟩
      · exact .inl ⟨h, by decide⟩
    · rename_i vs hgd
      have hy : yielded ops a.tmps j = none := by
        unfold guardOf at hgd
        cases hj : ops[j]? with
        | none => simp [hj] at hgd
        | some oj =>
          simp only [hj] at hgd
          cases hd : oj.dst with
          | none => simp [hd] at hgd
          | some d =>
            simp only [hd] at hgd
            have := (hs.fr d _ hgd).1
            simp [yielded, hj, hd, this, val]
      exact .inr ⟨h, by simp [Region.wanted, hg, hy]⟩
    · exact h.no.elim

section
variable {ops : Array Oper} {Q : Exit → Act → World → Prop} {tl : List Nat} {i : Nat} {o : Oper} {listed : Array Bool} {K : St → Prop} {s : St} {ρ : Nat → Nat} {a : Act} {w : World} {n : Nat}

/-- Behind a value that is put in. -/
theorem draw_put (hs : SRel C E s ρ a w)
    (hcont : ∀ s' ρ' a' w', K s' → SRel C E s' ρ' a' w' → anyG C.P .any ops Q (tlB ops tl) (HRel s'.R s'.hp s'.nx s'.rw_ ρ') n (listed.setIfInBounds i true) a' w')
    (v : SV) (hl : lab s.nx v) (hp : s.put C o.dst v K) : anyG C.P .any ops Q (tlB ops tl) (HRel s.R s.hp s.nx s.rw_ ρ) n (listed.setIfInBounds i true) (a.put o.dst (val ρ v)) w := by
  obtain ⟨s', ⟨k1, k4, k5⟩, k2, k3⟩ := put_sound' (put_hp hp) hs hl
  exact anyG_mono _ (fun w' hw' => HRel.weak hs.hr k3 (fun k x hx => by rw [k4]; exact hx) (fun r hr => by rw [k5]; exact hr) hw') _ _ _ (hcont _ _ _ _ k1 k2)

/-- An operation that is not quiet. -/
theorem draw_loud (hA : C.A = .real) (hT : TysOk C.P C.ty) (ho : ops[i]? = some o) (hq : quietK o.op = false) (h : drawStep C ops tl i s K) (hs : SRel C E s ρ a w)
    (hcont : ∀ s' ρ' a' w', K s' → SRel C E s' ρ' a' w' → anyG C.P .any ops Q (tlB ops tl) (HRel s'.R s'.hp s'.nx s'.rw_ ρ') n (listed.setIfInBounds i true) a' w') :
    wpOp C.P ops Q i (fun a' w' => (tlB ops tl i = false → HRel s.R s.hp s.nx s.rw_ ρ w') ∧ anyG C.P .any ops Q (tlB ops tl) (fun w => tlB ops tl i = false → HRel s.R s.hp s.nx s.rw_ ρ w) n (listed.setIfInBounds i true) a' w') a w := by
  unfold wpOp
  simp only [ho]
  rcases draw_key ho h hs with ⟨h1, hw⟩ | ⟨h1, hw⟩
  · rw [if_pos hw]
    refine .inl (opq_sound hA hT hs (opVT_q h1).1 fun s' ρ' a' w' k1 k2 k3 => ?_)
    have htj : tlB ops tl i = memN tl i := by simp [tlB, ho, hq]
    rw [htj]
    cases hn : memN tl i with
    | true =>
      simp only [nextK, hq, hn, Bool.false_or, cond_true] at k1
      exact ⟨fun hne => (by cases hne), anyG_mono _ (fun w _ hne => (by cases hne)) _ _ _ (hcont _ _ _ _ k1 k2)⟩
    | false =>
      simp only [nextK, hq, hn, Bool.false_or, cond_false] at k1
      obtain ⟨⟨k4, k6⟩, k5⟩ := k1
      have hwk : ∀ w'', HRel s'.R s'.hp s'.nx s'.rw_ ρ' w'' → HRel s.R s.hp s.nx s.rw_ ρ w'' := fun w'' hw'' => HRel.weak hs.hr k3 (wkH_find k4) (fun r hr => k6.subset hr) hw''
      exact ⟨fun _ => hwk _ k2.hr, anyG_mono _ (fun w'' hw'' _ => hwk w'' hw'') _ _ _ (hcont _ _ _ _ k5 k2)⟩
  · rw [if_neg (by rw [hw]; decide)]
    exact ⟨fun _ => hs.hr, anyG_mono _ (fun w'' hw'' _ => hw'') _ _ _ (draw_put hs hcont (.v undef) trivial h1)⟩

/-- One operation of a schedule. -/
theorem draw_one (hA : C.A = .real) (hT : TysOk C.P C.ty) (hQ : ∀ c a w, ¬ Q (.panic c) a w) (hsel : Region.noSelect ops = true)
    (htl : ∀ i o L, ops[i]? = some o → quietK o.op = true → pureK o.op = false → memN tl i = false → clo .any ops L → L.getD i true = false → ∀ t, tlB ops tl t = true → t ∉ Region.ready .any ops L)
    (hB1 : sched1 ops i listed = true) (hcl : clo .any ops listed) (h : drawStep C ops tl i s K) (hs : SRel C E s ρ a w)
    (hcont : i ∈ Region.ready .any ops listed → ∀ s' ρ' a' w', K s' → SRel C E s' ρ' a' w' → anyG C.P .any ops Q (tlB ops tl) (HRel s'.R s'.hp s'.nx s'.rw_ ρ') n (listed.setIfInBounds i true) a' w') :
    anyG C.P .any ops Q (tlB ops tl) (HRel s.R s.hp s.nx s.rw_ ρ) (n + 1) listed a w := by
  unfold sched1 at hB1
  cases ho : ops[i]? with
  | none => simp [ho] at hB1
  | some o =>
    simp only [ho] at hB1
    cases hq : quietK o.op with
    | true =>
      simp only [hq, if_true, Bool.and_eq_true] at hB1
      obtain ⟨hr, hf⟩ := hB1
      have hr : i ∈ Region.ready .any ops listed := by simpa using hr
      have hfr := Region.free_spec ho hf
      have hqi : tlB ops tl i = false := by simp [tlB, ho, hq]
      have putK := fun v hl hp => draw_put (o := o) hs (hcont hr) v hl hp
      cases hp : pureK o.op || memN tl i with
      | true =>
        have fin : ∀ v, lab s.nx v → YieldsIf C.P ops (fun _ => True) o (val ρ v) a → s.put C o.dst v K →
            anyG C.P .any ops Q (tlB ops tl) (HRel s.R s.hp s.nx s.rw_ ρ) (n + 1) listed a w := fun v hl hy hp =>
          anyG_pure ho (Region.noSelect_spec hsel) (fun c a w hx => absurd hx (hQ c _ w)) n _ listed a w hfr hr hy hs.hr (putK v hl hp)
        rcases draw_key ho h hs with ⟨h1, hw⟩ | ⟨h1, hw⟩
        · obtain ⟨h1, h1r⟩ := opVT_q h1
          obtain ⟨v, hl, hpt, hrun⟩ : ∃ v, lab s.nx v ∧ s.put C o.dst v _ ∧ ∀ w' : World, (execOp a.eval o).run C.P w' = .ok (.value (val ρ v)) w' := by
            rcases Bool.or_eq_true_iff.1 hp with hp | hp
            · exact op_pure hA hT hs h1 hp
            · exact op_raw hA hT hs h1 (h1r hq hp)
          rw [nextK_q hq] at hpt
          exact fin v hl (.inl ⟨hw, fun w' _ => hrun w'⟩) hpt
        · exact fin (.v undef) trivial (.inr ⟨hw, rfl⟩) h1
      | false =>
        have fin : ∀ v, lab s.nx v → YieldsIf C.P ops (HRel s.R s.hp s.nx s.rw_ ρ) o (val ρ v) a → s.put C o.dst v K →
            anyG C.P .any ops Q (tlB ops tl) (HRel s.R s.hp s.nx s.rw_ ρ) (n + 1) listed a w := fun v hl hy hpt =>
          anyG_first ho (Region.noSelect_spec hsel) (fun c a w hx => absurd hx (hQ c _ w)) hqi (fun L hc hL => htl i o L ho hq (Bool.or_eq_false_iff.1 hp).1 (Bool.or_eq_false_iff.1 hp).2 hc hL) n listed a w hcl
            hfr hr hy hs.hr (putK v hl hpt)
        rcases draw_key ho h hs with ⟨h1, hw⟩ | ⟨h1, hw⟩
        · obtain ⟨v, hl, hpt, hrun⟩ := op_quiet hA hT hs (opVT_q h1).1 hq
          rw [nextK_q hq] at hpt
          exact fin v hl (.inl ⟨hw, hrun⟩) hpt
        · exact fin (.v undef) trivial (.inr ⟨hw, rfl⟩) h1
    | false =>
      simp only [hq, Bool.false_eq_true, if_false] at hB1
      have hB1 : Region.ready .any ops listed = [i] := by simpa using hB1
      refine ⟨fun h0 => absurd (hB1.symm.trans h0) (by simp), fun j hj => ?_⟩
      have hr : i ∈ Region.ready .any ops listed := by rw [hB1]; simp
      rw [hB1] at hj
      obtain rfl : j = i := by simpa using hj
      exact draw_loud hA hT ho hq h hs (hcont hr)
end

theorem loud_of {ops : Array Oper} {i : Nat} (h : loudB ops i = true) : ∃ o, ops[i]? = some o ∧ quietK o.op = false := by
  unfold loudB at h
  cases ho : ops[i]? with
  | none => simp [ho] at h
  | some o => exact ⟨o, rfl, by simpa [ho] using h⟩

theorem draw_sound (hA : C.A = .real) (hT : TysOk C.P C.ty) {ops : Array Oper} {Q : Exit → Act → World → Prop} (hQ : ∀ c a w, ¬ Q (.panic c) a w) (hsel : Region.noSelect ops = true) {tl : List Nat}
    (htl : ∀ i o L, ops[i]? = some o → quietK o.op = true → pureK o.op = false → memN tl i = false → clo .any ops L → L.getD i true = false → ∀ t, tlB ops tl t = true → t ∉ Region.ready .any ops L) :
    ∀ (n : Nat) (l : List Nat) {listed : Array Bool} {K : St → Prop} {s : St} {ρ : Nat → Nat} {a : Act} {w : World}, schedF ops n l listed = true →
      clo .any ops listed → drawF C ops tl n l s K → SRel C E s ρ a w →
      (∀ s' ρ' a' w', K s' → SRel C E s' ρ' a' w' → Q .normal a' w') → anyG C.P .any ops Q (tlB ops tl) (HRel s.R s.hp s.nx s.rw_ ρ) (lenF n l) listed a w
  | 0, l, listed, K, s, ρ, a, w, hB, _, h, hs, hk => by
    simp only [schedF, Bool.and_eq_true] at hB
    exact ⟨by simpa using hB.2, hk s ρ a w h hs⟩
  | n + 1, [], listed, K, s, ρ, a, w, hB, hcl, h, hs, hk => ⟨by simpa [schedF] using hB, hk s ρ a w h hs⟩
  | n + 1, i :: r, listed, K, s, ρ, a, w, hB, hcl, h, hs, hk => by
    simp only [drawF] at h
    simp only [schedF] at hB
    obtain ⟨N, hN⟩ : ∃ N, N = lenF (n + 1) (i :: r) := ⟨_, rfl⟩
    rw [← hN]
    simp only [lenF] at hN
    cases hf : Nat.ble 1000 i with
    | false =>
      simp only [hf, cond_false, Bool.and_eq_true] at h hB hN
      rw [hN]
      exact draw_one (n := lenF n r) hA hT hQ hsel htl hB.1 hcl h hs fun hr s' ρ' a' w' h1 h2 => draw_sound hA hT hQ hsel htl n r hB.2 (clo_set hcl hr) h1 h2 hk
    | true =>
      simp only [hf, cond_true] at h hB hN
      generalize i - 1000 = i1 at h hB
      match r with
      | [] => exact h.elim
      | [_] => exact h.elim
      | j :: m :: t =>
        simp only [Bool.and_eq_true] at h hB hN
        rw [hN]
        obtain ⟨⟨⟨⟨⟨b1, b2⟩, b3⟩, b4⟩, b6⟩, b7⟩ := hB
        obtain ⟨h1, h2⟩ := h
        obtain ⟨oi, hoi, hqi⟩ := loud_of b2
        obtain ⟨oj, hoj, hqj⟩ := loud_of b3
        have b1 : Region.ready .any ops listed = [i1, j] := by simpa using b1
        have b4 := Nat.eq_of_beq_eq_true b4
        have hri : i1 ∈ Region.ready .any ops listed := by rw [b1]; simp
        have hrj : j ∈ Region.ready .any ops listed := by rw [b1]; simp
        refine ⟨fun h0 => absurd (b1.symm.trans h0) (by simp), fun k hk' => ?_⟩
        rw [b1] at hk'
        simp only [List.mem_cons, List.not_mem_nil, or_false] at hk'
        rcases hk' with rfl | rfl
        · exact draw_loud (n := lenF n (t.take m)) hA hT hoi hqi h1 hs fun s' ρ' a' w' h3 h4 => draw_sound hA hT hQ hsel htl n _ b6 (clo_set hcl hri) h3 h4 hk
        · rw [b4]
          exact draw_loud (n := lenF n (t.drop m)) hA hT hoj hqj h2 hs fun s' ρ' a' w' h3 h4 => draw_sound hA hT hQ hsel htl n _ b7 (clo_set hcl hrj) h3 h4 hk

theorem draw_region (hA : C.A = .real) (hT : TysOk C.P C.ty) {ops : Array Oper} {id : Nat} {Q : Exit → Act → World → Prop} {K : St → Prop} {s : St} {ρ : Nat → Nat} {a : Act} {w : World}
    (h : DrawP C.P ops fun l tl => drawVC C ops tl l s K) (hs : SRel C E s ρ a w) (hk : ∀ s' ρ' a' w', K s' → SRel C E s' ρ' a' w' → Q .normal a' w') : (Code.region id ops true).wp C.P Q a w := by
  obtain ⟨l, tl, hm, hB, hv⟩ := h.go
  simp only [Bool.and_eq_true] at hB
  obtain ⟨⟨⟨hsel, hB⟩, hlen⟩, htail⟩ := hB
  have hlen := Nat.eq_of_beq_eq_true hlen
  refine wp_region_noPanic (wp_region_any hm ?_)
  have hcl : clo .any ops (Array.replicate ops.size false) := fun k o _ hk => by
    exfalso
    rw [Array.getD_eq_getD_getElem?, Array.getElem?_replicate] at hk
    split at hk <;> simp at hk
  have hs' : SRel C E s ρ a { w with drawn := w.drawn + 1 } :=
    ⟨hs.fr, hs.sz, hs.df, ⟨hs.hr.blk, hs.hr.inj, hs.hr.lt, hs.hr.ro, hs.hr.dis, hs.hr.wf, hs.hr.row, hs.hr.rdis, hs.hr.rpair⟩, hs.ag, hs.nx, ⟨hs.kp.os, hs.kp.tape, hs.kp.output, hs.kp.size, hs.kp.block⟩, hs.nw, hs.rle, hs.rfr, hs.rn⟩
  unfold tailsB at htail
  rw [List.all_eq_true] at htail
  have inTl : ∀ t, tlB ops tl t = true → ∃ o, ops[t]? = some o ∧ quietK o.op = false ∧ ∀ k, k < ops.size → ∀ ok, ops[k]? = some ok → quietK ok.op = true → pureK ok.op = false → memN tl k = false → k ∈ ancs .any ops t t := by
    intro t ht
    unfold tlB at ht
    rw [Bool.and_eq_true] at ht
    obtain ⟨ht, hnq⟩ := ht
    unfold memN at ht
    rw [List.any_eq_true] at ht
    obtain ⟨u, hu, he⟩ := ht
    have he := Nat.eq_of_beq_eq_true he
    subst he
    have h1 := htail _ hu
    cases ho : ops[t]? with
    | none => simp [ho] at h1
    | some o =>
      simp only [ho] at h1
      simp only [ho, Bool.not_eq_true'] at hnq
      simp only [hnq, Bool.false_or] at h1
      refine ⟨o, rfl, hnq, fun k hk ok hok hq hp hm => ?_⟩
      rw [List.all_eq_true] at h1
      have h3 := h1 k (List.mem_range.2 hk)
      simp only [hok, hq, hp, hm, Bool.not_true, Bool.or_self, Bool.false_or] at h3
      rw [List.any_eq_true] at h3
      obtain ⟨m, hm, h4⟩ := h3
      rw [Nat.eq_of_beq_eq_true h4]
      exact hm
  have h0 := draw_sound hA hT (Q := NoPanic Q) (fun c a w h => h) hsel (tl := tl)
    (fun i o L ho hq hp hm hc hL t ht => by
      obtain ⟨o', ho', h2, h3⟩ := inTl t ht
      have hlt : i < ops.size := (Array.getElem?_eq_some_iff.1 ho).1
      refine ancs_path hc t i (h3 i hlt o ho hq hp hm) (fun he => ?_) (fun hx => ?_)
      · subst he; rw [ho] at ho'; simp only [Option.some.injEq] at ho'; subst ho'; rw [hq] at h2; cases h2
      · rcases Nat.lt_or_ge i L.size with h' | h'
        · simp [h'] at hL hx; rw [hL] at hx; cases hx
        · simp [Array.getElem?_eq_none h'] at hx)
    l.length l hB hcl hv hs' fun s' ρ' a' w' k1 k2 => hk s' ρ' a' w' k1 k2
  rw [hlen] at h0
  exact wpAny_of_anyG _ _ _ _ h0
end
end Go.Se
