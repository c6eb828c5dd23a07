/- The evaluator is sound: regions that draw their order. -/
import Derived.Test.YtclkimgpdnldnaaSj
import Derived.Deep.RegionHeld3
set_option linter.unusedSimpArgs false
set_option linter.unusedVariables false
namespace Go.Se
open Go

section
variable {P : Program} {ops : Array Oper} {Q : Exit → Act → World → Prop} {md : Region.Mode} {S : World → Prop} {tl : Nat}

/-- Whatever order is picked from here on; and S holds behind each operation but the tail. -/
def anyG (P : Program) (md : Region.Mode) (ops : Array Oper) (Q : Exit → Act → World → Prop) (tl : Nat) (S : World → Prop) : Nat → Array Bool → Act → World → Prop
  | 0, listed, a, w => Region.ready md ops listed = [] ∧ Q .normal a w
  | fuel + 1, listed, a, w =>
    (Region.ready md ops listed = [] → Q .normal a w) ∧
    ∀ i ∈ Region.ready md ops listed, wpOp P ops Q i (fun a' w' => (i ≠ tl → S w') ∧ anyG P md ops Q tl S fuel (listed.setIfInBounds i true) a' w') a w

theorem anyG_mono {S' : World → Prop} (h : ∀ w, S w → S' w) : ∀ (fuel : Nat) (listed : Array Bool) (a : Act) (w : World), anyG P md ops Q tl S fuel listed a w → anyG P md ops Q tl S' fuel listed a w
  | 0, _, _, _, hh => hh
  | fuel + 1, _, _, _, hh => ⟨hh.1, fun i hi => wpOp_mono (fun a' w' h' => ⟨fun hr => h _ (h'.1 hr), anyG_mono h fuel _ a' w' h'.2⟩) (hh.2 i hi)⟩

theorem wpAny_of_anyG : ∀ (fuel : Nat) (listed : Array Bool) (a : Act) (w : World), anyG P md ops Q tl S fuel listed a w → wpAny P md ops Q fuel listed a w
  | 0, _, _, _, h => h
  | fuel + 1, _, _, _, h => ⟨h.1, fun i hi => wpOp_mono (fun a' w' h' => wpAny_of_anyG fuel _ a' w' h'.2) (h.2 i hi)⟩

/-- What has come up has come up behind what it waits for. -/
def clo (md : Region.Mode) (ops : Array Oper) (L : Array Bool) : Prop := ∀ k o, ops[k]? = some o → L.getD k false = true → ∀ e ∈ o.after, Region.binds md e = true → L.getD e.on false = true

theorem clo_set {L : Array Bool} {j : Nat} (h : clo md ops L) (hj : j ∈ Region.ready md ops L) : clo md ops (L.setIfInBounds j true) := by
  intro k o ho hk e he hb
  by_cases hkj : j = k
  · subst hkj
    obtain ⟨_, o', ho', hall⟩ := mem_ready.1 hj
    rw [ho] at ho'
    simp only [Option.some.injEq] at ho'
    subst ho'
    exact getD_set_true (hall e he hb)
  · rw [getD_set_ne false hkj] at hk
    exact getD_set_true (h k o ho hk e he hb)

theorem sucB_path {t : Nat} (hs : sucB md ops t = true) {L : Array Bool} (hc : clo md ops L) : ∀ (d k : Nat), k < ops.size → ops.size - k ≤ d → k ≠ t → ¬ L.getD k false = true → t ∉ Region.ready md ops L
  | 0, k, hk, hd, _, _ => by omega
  | d + 1, k, hk, hd, hkt, hL => by
    intro ht
    simp only [sucB, List.all_eq_true, List.mem_range, Bool.or_eq_true, beq_iff_eq] at hs
    rcases hs k hk with h1 | h1
    · exact hkt h1
    · rw [List.any_eq_true] at h1
      obtain ⟨m, hm, h2⟩ := h1
      simp only [List.mem_range] at hm
      simp only [Bool.and_eq_true, decide_eq_true_eq] at h2
      obtain ⟨h2, h3⟩ := h2
      have hom : ops[m]? = some ops[m] := Array.getElem?_eq_getElem hm
      simp only [hom, Option.map_some, Option.getD_some] at h3
      rw [Array.any_eq_true] at h3
      obtain ⟨i, hi, h4⟩ := h3
      simp only [Bool.and_eq_true, beq_iff_eq] at h4
      have hmem : ops[m].after[i] ∈ ops[m].after := Array.getElem_mem hi
      by_cases hmt : m = t
      · subst hmt
        obtain ⟨_, o', ho', hall⟩ := mem_ready.1 ht
        rw [hom] at ho'
        simp only [Option.some.injEq] at ho'
        rw [← ho'] at hall
        have := hall _ hmem h4.1
        rw [h4.2] at this
        exact hL this
      · refine sucB_path hs' hc d m hm (by omega) hmt (fun hx => ?_) ht
        have := hc m _ hom hx _ hmem h4.1
        rw [h4.2] at this
        exact hL this
where hs' := hs

/-- What yields one value wherever S holds may be taken first. -/
theorem anyG_first {i : Nat} {oi : Oper} {v : Value} (hi : ops[i]? = some oi) (hsel : ∀ (j : Nat) (o : Oper) cs b, ops[j]? = some o → o.op ≠ .select cs b)
    (hQ : ∀ c a w, Q (.panic c) (a.put oi.dst v) w → Q (.panic c) a w) (htl : ∀ L, clo md ops L → L.getD i true = false → tl ∉ Region.ready md ops L) :
    ∀ (fuel : Nat) (listed : Array Bool) (a : Act) (w : World), clo md ops listed →
      (∀ j oj, ops[j]? = some oj → j ≠ i → listed.getD j true = false → (∀ e ∈ oj.after, Region.binds md e = true → e.on ≠ i) → oi.apart ops oj = true) →
      i ∈ Region.ready md ops listed → YieldsIf P ops S oi v a → S w →
      anyG P md ops Q tl S fuel (listed.setIfInBounds i true) (a.put oi.dst v) w → anyG P md ops Q tl S (fuel + 1) listed a w := by
  intro fuel
  induction fuel with
  | zero =>
    intro listed a w _ _ hr hy hS H
    refine ⟨fun h => (by rw [h] at hr; cases hr), fun j hj => ?_⟩
    by_cases hji : j = i
    · subst hji; exact hy.wpOp hi hS ⟨fun _ => hS, H⟩
    · have := ready_mono hj hji
      rw [H.1] at this
      cases this
  | succ fuel ih =>
    intro listed a w hcl hfree hr hy hS H
    refine ⟨fun h => (by rw [h] at hr; cases hr), fun j hj => ?_⟩
    by_cases hji : j = i
    · subst hji; exact hy.wpOp hi hS ⟨fun _ => hS, H⟩
    · have h1 := H.2 j (ready_mono hj hji)
      have hjt : j ≠ tl := fun he => htl listed hcl (mem_ready.1 hr).1 (he ▸ hj)
      obtain ⟨hjun, oj, hoj, hall⟩ := mem_ready.1 hj
      have hnot : ∀ e ∈ oj.after, Region.binds md e = true → e.on ≠ i := fun e he hb heq => by
        have h1 := hall e he hb
        have h0 := (mem_ready.1 hr).1
        rw [heq] at h1
        rcases Nat.lt_or_ge i listed.size with h' | h'
        · simp [h'] at h0 h1; rw [h0] at h1; cases h1
        · simp [Array.getElem?_eq_none h'] at h1
      have h2 := wpOp_putIf hoj (hfree j oj hoj hji hjun hnot) (fun cs b => hsel i oi cs b hi) (fun cs b => hsel j oj cs b hoj) hQ hy h1
      have hfree' : ∀ k ok, ops[k]? = some ok → k ≠ i → (listed.setIfInBounds j true).getD k true = false →
          (∀ e ∈ ok.after, Region.binds md e = true → e.on ≠ i) → oi.apart ops ok = true := fun k ok hk hki hun hno => by
        refine hfree k ok hk hki ?_ hno
        by_cases hjk : j = k
        · subst hjk; exact hjun
        · rw [getD_set_ne true hjk] at hun; exact hun
      refine wpOp_mono (fun a' w' h3 => ?_) h2
      obtain ⟨k1, k2, k3⟩ := h3
      refine ⟨fun _ => k2 hjt, ih (listed.setIfInBounds j true) a' w' (clo_set hcl hj) hfree' (ready_mono hr (Ne.symm hji)) k1 (k2 hjt) ?_⟩
      rw [Array.setIfInBounds_comm _ _ hji]
      exact k3
end

section
variable {C : Cx} {E : En}

theorem wkF_find {fr : List (Nat × SV)} : ∀ {t : List (Nat × SV)}, WkF fr t → ∀ k x, find t k = some x → find fr k = some x
  | [], _, k, x, h => by simp [find] at h
  | (j, y) :: r, hw, k, x, h => by
    simp only [find_cons] at h
    by_cases he : j = k
    · subst he; simp at h; subst h; exact hw.1
    · simp only [he, if_false] at h; exact wkF_find hw.2 k x h

theorem wkH_find {fr : List (Nat × HB)} : ∀ {t : List (Nat × HB)}, WkH fr t → ∀ k x, find t k = some x → find fr k = some x
  | [], _, k, x, h => by simp [find] at h
  | (j, y) :: r, hw, k, x, h => by
    simp only [find_cons] at h
    by_cases he : j = k
    · subst he; simp at h; subst h; exact hw.1
    · simp only [he, if_false] at h; exact wkH_find hw.2 k x h


/-- What fitted an earlier state fits on. -/
theorem HRel.weak {s s' : St} {ρ ρ' : Nat → Nat} {w w' : World} (h : HRel s.R s.hp s.nx s.rw_ ρ w) (ha : Adv s s' ρ ρ') (hh : ∀ k x, find s.hp k = some x → find s'.hp k = some x) (hr : ∀ r ∈ s.rw_, r ∈ s'.rw_)
    (h' : HRel s'.R s'.hp s'.nx s'.rw_ ρ' w') : HRel s.R s.hp s.nx s.rw_ ρ w' := by
  refine ⟨?_, h.inj, ?_, fun b o hb => h'.ro b o (ha.le b o hb), h.dis, h.wf, fun r hx => h'.row r (hr r hx), h.rdis, h.rpair⟩
  · intro l b hb
    obtain ⟨h1, h2⟩ := h.wf l b hb
    have := h'.blk l b (hh _ _ hb)
    rw [ha.ag l h1, valL_agree ha.ag _ h2] at this
    exact this
  · intro l hl
    have := h'.lt l (Nat.lt_of_lt_of_le hl ha.nx)
    rwa [ha.ag l hl] at this

theorem put_hp {s : St} {d : Option Tmp} {v : SV} {K : St → Prop} (h : s.put C d v K) : s.put C d v fun s' => K s' ∧ s'.hp = s.hp ∧ s'.rw_ = s.rw_ := by
  cases d with
  | none => simpa [St.put] using h
  | some d =>
    simp only [St.put] at h ⊢
    cases hb : Nat.blt d C.n with
    | false => simp [hb] at h
    | true => simp only [hb, cond_true] at h ⊢; exact ⟨h, trivial, trivial⟩

theorem draw_sound (hA : C.A = .real) (hT : TysOk C.P C.ty) {ops : Array Oper} {Q : Exit → Act → World → Prop} (hQ : ∀ c a w, ¬ Q (.panic c) a w) (hsel : Region.noSelect ops = true) {tl : Nat}
    (htl : ∀ i o L, ops[i]? = some o → quietK o.op = true → clo .any ops L → L.getD i true = false → tl ∉ Region.ready .any ops L) :
    ∀ (l : List Nat) {listed : Array Bool} {K : St → Prop} {s : St} {ρ : Nat → Nat} {a : Act} {w : World}, schedB ops l listed = true →
      (∀ t o, l.getLast? = some t → ops[t]? = some o → quietK o.op = false → t = tl) → clo .any ops listed → drawVC C ops l s K → SRel C E s ρ a w →
      (∀ s' ρ' a' w', K s' → SRel C E s' ρ' a' w' → Q .normal a' w') → anyG C.P .any ops Q tl (HRel s.R s.hp s.nx s.rw_ ρ) l.length listed a w
  | [], listed, K, s, ρ, a, w, hB, _, _, h, hs, hk => ⟨by simpa [schedB] using hB, hk s ρ a w h hs⟩
  | i :: is, listed, K, s, ρ, a, w, hB, hlast, hcl, h, hs, hk => by
    simp only [drawVC] at h
    simp only [schedB, Bool.and_eq_true] at hB
    obtain ⟨hB1, hB2⟩ := hB
    cases ho : ops[i]? with
    | none => simp [ho] at hB1
    | some o =>
      simp only [ho] at h hB1
      have hlast' : ∀ t o, is.getLast? = some t → ops[t]? = some o → quietK o.op = false → t = tl := fun t o ht => hlast t o (by
        cases is with
        | nil => simp at ht
        | cons x xs => simpa [List.getLast?_cons_cons] using ht)
      -- the two ways
      have key : (opVC C s o (fun s' => (bif quietK o.op || nilB is then (fun _ => drawVC C ops is s' K) else fun _ : Unit => Chk (fun _ => WkH s'.hp s.hp ∧ s'.rw_ = s.rw_) (drawVC C ops is s' K)) ()) ∧ Region.wanted o (yielded ops a.tmps) = true) ∨
          (s.put C o.dst (.v undef) (fun s' => drawVC C ops is s' K) ∧ Region.wanted o (yielded ops a.tmps) = false) := by
        cases hg : o.guard with
        | none =>
          simp only [hg] at h
          exact .inl ⟨h, by simp [Region.wanted, hg]⟩
        | some jw =>
          obtain ⟨j, want⟩ := jw
          simp only [hg] at h
          split at h
          · rename_i g hgd
            have hy : yielded ops a.tmps j = some g := by
              unfold guardOf at hgd
              cases hj : ops[j]? with
              | none => simp [hj] at hgd
              | some oj =>
                simp only [hj] at hgd
                cases hd : oj.dst with
                | none => simp [hd] at hgd
                | some d =>
                  simp only [hd] at hgd
                  have := (hs.fr d _ hgd).1
                  simp [yielded, hj, hd, this, val]
            have hw : Region.wanted o (yielded ops a.tmps) = (g == want) := by simp [Region.wanted, hg, hy]
            rw [hw]
            cases want <;> cases g <;> simp only [br, cond_true, cond_false] at h
            · exact .inl ⟨h, by decide⟩
            · exact .inr ⟨h, by decide⟩
            · exact .inr ⟨h, by decide⟩
            · exact .inl ⟨h, by decide⟩
          · rename_i vs hgd
            have hy : yielded ops a.tmps j = none := by
              unfold guardOf at hgd
              cases hj : ops[j]? with
              | none => simp [hj] at hgd
              | some oj =>
                simp only [hj] at hgd
                cases hd : oj.dst with
                | none => simp [hd] at hgd
                | some d =>
                  simp only [hd] at hgd
                  have := (hs.fr d _ hgd).1
                  simp [yielded, hj, hd, this, val]
            exact .inr ⟨h, by simp [Region.wanted, hg, hy]⟩
          · exact h.no.elim
      -- behind a value that is put in
      have putK : ∀ (v : SV), lab s.nx v → s.put C o.dst v (fun s' => drawVC C ops is s' K) → i ∈ Region.ready .any ops listed →
          anyG C.P .any ops Q tl (HRel s.R s.hp s.nx s.rw_ ρ) is.length (listed.setIfInBounds i true) (a.put o.dst (val ρ v)) w := by
        intro v hl hp hr
        obtain ⟨s', ⟨k1, k4, k5⟩, k2, k3⟩ := put_sound' (put_hp hp) hs hl
        refine anyG_mono (fun w' hw' => HRel.weak hs.hr k3 (fun k x hx => by rw [k4]; exact hx) (fun r hr => by rw [k5]; exact hr) hw') _ _ _ _ (draw_sound hA hT hQ hsel htl is hB2 hlast' (clo_set hcl hr) k1 k2 hk)
      cases hq : quietK o.op with
      | true =>
        simp only [hq, if_true, Bool.and_eq_true] at hB1
        obtain ⟨hr, hf⟩ := hB1
        have hr : i ∈ Region.ready .any ops listed := by simpa using hr
        have fin : ∀ v, lab s.nx v → YieldsIf C.P ops (HRel s.R s.hp s.nx s.rw_ ρ) o (val ρ v) a → s.put C o.dst v (fun s' => drawVC C ops is s' K) →
            anyG C.P .any ops Q tl (HRel s.R s.hp s.nx s.rw_ ρ) (is.length + 1) listed a w := fun v hl hy hp =>
          anyG_first ho (Region.noSelect_spec hsel) (fun c a w hx => absurd hx (hQ c _ w)) (fun L hc hL => htl i o L ho hq hc hL) is.length listed a w hcl
            (Region.free_spec ho hf) hr hy hs.hr (putK v hl hp hr)
        rcases key with ⟨h1, hw⟩ | ⟨h1, hw⟩
        · obtain ⟨v, hl, hp, hrun⟩ := op_quiet hA hT hs h1 hq
          simp only [hq, Bool.true_or, cond_true] at hp
          exact fin v hl (.inl ⟨hw, hrun⟩) hp
        · exact fin (.v undef) trivial (.inr ⟨hw, rfl⟩) h1
      | false =>
        simp only [hq, Bool.false_eq_true, if_false] at hB1
        have hB1 : Region.ready .any ops listed = [i] := by simpa using hB1
        refine ⟨fun h0 => absurd (hB1.symm.trans h0) (by simp), fun j hj => ?_⟩
        have hr : i ∈ Region.ready .any ops listed := by rw [hB1]; simp
        rw [hB1] at hj
        obtain rfl : j = i := by simpa using hj
        unfold wpOp
        simp only [ho]
        rcases key with ⟨h1, hw⟩ | ⟨h1, hw⟩
        · rw [if_pos hw]
          refine .inl (op_sound hA hT hs h1 fun s' ρ' a' w' k1 k2 k3 => ?_)
          cases hn : nilB is with
          | true =>
            have : is = [] := by cases is with
              | nil => rfl
              | cons x xs => simp [nilB] at hn
            subst this
            simp only [hq, hn, Bool.false_or, cond_true] at k1
            refine ⟨fun hne => absurd (hlast j o rfl ho hq) hne, ?_⟩
            have h0 := draw_sound hA hT hQ hsel htl [] hB2 hlast' (clo_set hcl hr) k1 k2 hk
            exact h0
          | false =>
            simp only [hq, hn, Bool.false_or, cond_false] at k1
            obtain ⟨⟨k4, k6⟩, k5⟩ := k1
            have hwk : ∀ w'', HRel s'.R s'.hp s'.nx s'.rw_ ρ' w'' → HRel s.R s.hp s.nx s.rw_ ρ w'' := fun w'' hw'' => HRel.weak hs.hr k3 (wkH_find k4) (fun r hr => by rw [k6]; exact hr) hw''
            exact ⟨fun _ => hwk _ k2.hr, anyG_mono hwk _ _ _ _ (draw_sound hA hT hQ hsel htl is hB2 hlast' (clo_set hcl hr) k5 k2 hk)⟩
        · rw [if_neg (by rw [hw]; decide)]
          exact ⟨fun _ => hs.hr, putK (.v undef) trivial h1 hr⟩

theorem draw_region (hA : C.A = .real) (hT : TysOk C.P C.ty) {ops : Array Oper} {id : Nat} {Q : Exit → Act → World → Prop} {K : St → Prop} {s : St} {ρ : Nat → Nat} {a : Act} {w : World}
    (h : DrawP C.P ops fun l => drawVC C ops l s K) (hs : SRel C E s ρ a w) (hk : ∀ s' ρ' a' w', K s' → SRel C E s' ρ' a' w' → Q .normal a' w') : (Code.region id ops true).wp C.P Q a w := by
  obtain ⟨l, hm, hB, hv⟩ := h.go
  simp only [Bool.and_eq_true] at hB
  obtain ⟨⟨⟨hsel, hB⟩, hlen⟩, htail⟩ := hB
  have hlen := Nat.eq_of_beq_eq_true hlen
  refine wp_region_noPanic (wp_region_any hm ?_)
  have hcl : clo .any ops (Array.replicate ops.size false) := fun k o _ hk => by
    exfalso
    rw [Array.getD_eq_getD_getElem?, Array.getElem?_replicate] at hk
    split at hk <;> simp at hk
  have hs' : SRel C E s ρ a { w with drawn := w.drawn + 1 } :=
    ⟨hs.fr, hs.sz, hs.df, ⟨hs.hr.blk, hs.hr.inj, hs.hr.lt, hs.hr.ro, hs.hr.dis, hs.hr.wf, hs.hr.row, hs.hr.rdis, hs.hr.rpair⟩, hs.ag, hs.nx, ⟨hs.kp.os, hs.kp.tape, hs.kp.output, hs.kp.size, hs.kp.block⟩, hs.nw, hs.rle, hs.rfr, hs.rn⟩
  have fin : ∀ tl, (∀ i o L, ops[i]? = some o → quietK o.op = true → clo .any ops L → L.getD i true = false → tl ∉ Region.ready .any ops L) →
      (∀ t o, l.getLast? = some t → ops[t]? = some o → quietK o.op = false → t = tl) →
      wpAny C.P .any ops (NoPanic Q) ops.size (Array.replicate ops.size false) a { w with drawn := w.drawn + 1 } := fun tl h1 h2 => by
    refine wpAny_of_anyG (tl := tl) (S := HRel s.R s.hp s.nx s.rw_ ρ) _ _ _ _ ?_
    have := draw_sound hA hT (Q := NoPanic Q) (fun c a w h => h) hsel h1 l hB h2 hcl hv hs' fun s' ρ' a' w' k1 k2 => hk s' ρ' a' w' k1 k2
    rwa [hlen] at this
  unfold tailB at htail
  cases hl : l.getLast? with
  | none => exact fin ops.size (fun i o L _ _ _ _ hm => by obtain ⟨_, o', ho', _⟩ := mem_ready.1 hm; simp at ho') (fun t o ht => by rw [hl] at ht; cases ht)
  | some t =>
    simp only [hl] at htail
    cases ht : ops[t]? with
    | none => exact fin ops.size (fun i o L _ _ _ _ hm => by obtain ⟨_, o', ho', _⟩ := mem_ready.1 hm; simp at ho') (fun t' o ht' ho => by
        rw [hl] at ht'; simp only [Option.some.injEq] at ht'; subst ht'; rw [ht] at ho; cases ho)
    | some ot =>
      simp only [ht] at htail
      cases hq : quietK ot.op with
      | true => exact fin ops.size (fun i o L _ _ _ _ hm => by obtain ⟨_, o', ho', _⟩ := mem_ready.1 hm; simp at ho') (fun t' o ht' ho hoq => by
          rw [hl] at ht'; simp only [Option.some.injEq] at ht'; subst ht'; rw [ht] at ho; simp only [Option.some.injEq] at ho; subst ho; rw [hq] at hoq; cases hoq)
      | false =>
        simp only [hq, Bool.false_or] at htail
        refine fin t (fun i o L hi hqi hc hL => ?_) (fun t' o ht' _ _ => by rw [hl] at ht'; simp only [Option.some.injEq] at ht'; exact ht'.symm)
        have hlt : i < ops.size := (Array.getElem?_eq_some_iff.1 hi).1
        refine sucB_path htail hc ops.size i hlt (by omega) (fun he => ?_) (fun hx => ?_)
        · subst he; rw [ht] at hi; simp only [Option.some.injEq] at hi; subst hi; rw [hq] at hqi; cases hqi
        · rcases Nat.lt_or_ge i L.size with h' | h'
          · simp [h'] at hL hx; rw [hL] at hx; cases hx
          · simp [Array.getElem?_eq_none h'] at hx
end
end Go.Se
