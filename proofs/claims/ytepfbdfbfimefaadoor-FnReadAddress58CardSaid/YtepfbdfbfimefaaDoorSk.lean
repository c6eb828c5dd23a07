/- The evaluator is sound: code, functions. -/
import Derived.Test.YtepfbdfbfimefaaDoorSp
set_option linter.unusedSimpArgs false
set_option linter.unusedVariables false
namespace Go.Se
open Go

section
variable {C : Cx} {E : En}

theorem ops_sound (hA : C.A = .real) (hT : TysOk C.P C.ty) {ops : Array Oper} {Q : Exit → Act → World → Prop} : ∀ (l : List Nat) {K : St → Prop} {s : St} {ρ : Nat → Nat} {a : Act} {w : World},
    opsVC C ops l s K → SRel C E s ρ a w → (∀ s' ρ' a' w', K s' → SRel C E s' ρ' a' w' → Q .normal a' w') → wpOps C.P ops Q l a w
  | [], K, s, ρ, a, w, h, hs, hk => hk s ρ a w h hs
  | i :: is, K, s, ρ, a, w, h, hs, hk => by
    simp only [opsVC] at h
    simp only [wpOps]
    cases ho : ops[i]? with
    | none => simp only [ho] at h; exact ops_sound hA hT is h hs hk
    | some o =>
      simp only [ho] at h
      show if Region.wanted o (yielded ops a.tmps) = true then Oper.wp C.P o a w (wpOps C.P ops Q is) Q ∨ Oper.asks C.P o a w ∧ LetsOut Q
        else wpOps C.P ops Q is (a.put o.dst undef) w
      have go : opVC C s o (fun s' => opsVC C ops is s' K) → o.wp C.P a w (wpOps C.P ops Q is) Q := fun h1 =>
        op_sound hA hT hs h1 fun s' ρ' a' w' k1 k2 _ => ops_sound hA hT is k1 k2 hk
      have no : s.put C o.dst (.v undef) (fun s' => opsVC C ops is s' K) → wpOps C.P ops Q is (a.put o.dst undef) w := fun h1 => by
        obtain ⟨s', k1, k2⟩ := put_sound (v := .v undef) h1 hs trivial
        exact ops_sound hA hT is k1 k2 hk
      cases hg : o.guard with
      | none =>
        simp only [hg] at h
        have hw : Region.wanted o (yielded ops a.tmps) = true := by simp [Region.wanted, hg]
        rw [if_pos hw]
        exact .inl (go h)
      | some jw =>
        obtain ⟨j, want⟩ := jw
        simp only [hg] at h
        split at h
        · rename_i g hgd
          have hy : yielded ops a.tmps j = some g := by
            unfold guardOf at hgd
            cases hj : ops[j]? with
            | none => simp [hj] at hgd
            | some oj =>
              simp only [hj] at hgd
              cases hd : oj.dst with
              | none => simp [hd] at hgd
              | some d =>
                simp only [hd] at hgd
                have := (hs.fr d _ hgd).1
                simp [yielded, hj, hd, this, val]
          have hw : Region.wanted o (yielded ops a.tmps) = (g == want) := by simp [Region.wanted, hg, hy]
          rw [hw]
          cases want <;> cases g <;> simp only [br, cond_true, cond_false] at h
          · rw [if_pos (by decide)]; exact .inl (go h)
          · rw [if_neg (by decide)]; exact no h
          · rw [if_neg (by decide)]; exact no h
          · rw [if_pos (by decide)]; exact .inl (go h)
        · rename_i vs hgd
          have hy : yielded ops a.tmps j = none := by
            unfold guardOf at hgd
            cases hj : ops[j]? with
            | none => simp [hj] at hgd
            | some oj =>
              simp only [hj] at hgd
              cases hd : oj.dst with
              | none => simp [hd] at hgd
              | some d =>
                simp only [hd] at hgd
                have := (hs.fr d _ hgd).1
                simp [yielded, hj, hd, this, val]
          have hw : Region.wanted o (yielded ops a.tmps) = false := by simp [Region.wanted, hg, hy]
          rw [hw, if_neg (by decide)]
          exact no h
        · exact h.no.elim

/-- A measure that stands in no slot. -/
theorem least {p : Nat → Prop} (h : ∃ n, p n) : ∃ n, p n ∧ ∀ m, m < n → ¬ p m := by
  obtain ⟨n, hn⟩ := h
  induction n using Nat.strongRecOn with
  | _ n ih =>
    by_cases hx : ∃ m, m < n ∧ p m
    · obtain ⟨m, h1, h2⟩ := hx
      exact ih m h1 h2
    · exact ⟨n, hn, fun m hm hp => hx ⟨m, hm, hp⟩⟩

mutual
theorem labB_lab {n : Nat} : ∀ {x : SV}, labB n x = true → lab n x
  | .v _, _ => trivial
  | .p l _, h => by simpa [labB, lab] using h
  | .se l _ _ _, h => by simpa [labB, lab] using h
  | .ag xs, h => labLB_lab (xs := xs) h
  | .tu xs, h => labLB_lab (xs := xs) h
  | .ifc _ x, h => labB_lab (x := x) h
  | .fn _ xs ys, h => by
    simp only [labB, Bool.and_eq_true] at h
    exact ⟨labLB_lab h.1, labLB_lab h.2⟩
theorem labLB_lab {n : Nat} : ∀ {xs : List SV}, labLB n xs = true → labL n xs
  | [], _ => trivial
  | x :: xs, h => by
    simp only [labLB, Bool.and_eq_true] at h
    exact ⟨labB_lab h.1, labLB_lab h.2⟩
end

theorem labFB_lab {n : Nat} : ∀ {fr : List (Nat × SV)}, labFB n fr = true → ∀ k x, find fr k = some x → lab n x
  | [], _, k, x, h => by simp [find] at h
  | (j, y) :: r, hb, k, x, h => by
    simp only [labFB, Bool.and_eq_true] at hb
    simp only [find_cons] at h
    by_cases he : j = k
    · subst he; simp at h; subst h; exact labB_lab hb.1
    · simp only [he, if_false] at h; exact labFB_lab hb.2 k x h

theorem labHB_lab {n : Nat} : ∀ {hp : List (Nat × HB)}, labHB n hp = true → ∀ k x, find hp k = some x → k < n ∧ labL n x.cs
  | [], _, k, x, h => by simp [find] at h
  | (j, y) :: r, hb, k, x, h => by
    simp only [labHB, Bool.and_eq_true] at hb
    simp only [find_cons] at h
    by_cases he : j = k
    · subst he; simp at h; subst h; exact ⟨by simpa using hb.1.1, labLB_lab hb.1.2⟩
    · simp only [he, if_false] at h; exact labHB_lab hb.2 k x h

theorem wk_sound {n0 : Nat} {s t : St} (h : Wk n0 s t) {ρ : Nat → Nat} {a : Act} {w : World} (h0 : E.n ≤ n0) (hs : SRel C E s ρ a w) : SRel C E t ρ a w := by
  obtain ⟨f, R, hp, nx, rs⟩ := t
  obtain ⟨h1, rfl, h3, h4, h9⟩ := h
  simp only [Bool.and_eq_true] at h1 h3 h4
  simp only at h9
  obtain ⟨⟨⟨h5, h6⟩, h7⟩, h8⟩ := h4
  have h5 := Nat.le_of_ble_eq_true h5
  have h6 := Nat.le_of_ble_eq_true h6
  exact ⟨fun k x hf => ⟨(hs.fr k x (wkF_find h1 k x hf)).1, labFB_lab h7 k x hf⟩, hs.sz, hs.df,
    ⟨fun l b hf => hs.hr.blk l b (wkH_find h3 l b hf), fun l l' a b => hs.hr.inj l l' (Nat.lt_of_lt_of_le a h6) (Nat.lt_of_lt_of_le b h6), fun l hl => hs.hr.lt l (Nat.lt_of_lt_of_le hl h6), hs.hr.ro, fun l b hf => hs.hr.dis l b (wkH_find h3 l b hf),
      fun l b hf => labHB_lab h8 l b hf, fun r hr => hs.hr.row r (h9.subset hr), fun r hr g hg => ⟨(hs.hr.rdis r (h9.subset hr) g hg).1, fun l b hf => (hs.hr.rdis r (h9.subset hr) g hg).2 l b (wkH_find h3 l b hf)⟩, hs.hr.rpair.sublist h9⟩,
    hs.ag, Nat.le_trans h0 h5, hs.kp, fun l a b => hs.nw l a (Nat.lt_of_lt_of_le b h6), hs.rle, hs.rfr, fun r hr => hs.rn r (h9.subset hr)⟩

theorem find_keep (fz : List Nat) : ∀ (fr : List (Nat × SV)) (k : Nat) (x : SV), find (keepFr fz fr) k = some x → find fr k = some x
  | [], k, x, h => by simp [keepFr, find] at h
  | (j, y) :: r, k, x, h => by
    simp only [keepFr] at h
    cases hm : memN fz j with
    | true =>
      simp only [hm, cond_true, find_cons] at h
      simp only [find_cons]
      by_cases he : j = k
      · simpa [he] using h
      · simp only [he, if_false] at h ⊢
        exact find_keep fz r k x h
    | false =>
      simp only [hm, cond_false] at h
      simp only [find_cons]
      by_cases he : j = k
      · subst he
        exfalso
        have hno : ∀ (l : List (Nat × SV)), find (keepFr fz l) j = none := fun l => by
          induction l with
          | nil => rfl
          | cons z l ih =>
            obtain ⟨i, u⟩ := z
            simp only [keepFr]
            cases hi : memN fz i with
            | true =>
              simp only [cond_true, find_cons]
              by_cases hij : i = j
              · subst hij; rw [hm] at hi; cases hi
              · simp only [hij, if_false]; exact ih
            | false => simpa using ih
        rw [hno r] at h
        cases h
      · simp only [he, if_false]
        exact find_keep fz r k x h

theorem dropped_sound {s : St} {ρ : Nat → Nat} {a : Act} {w : World} (hs : SRel C E s ρ a w) : SRel C E (s.dropped C) ρ a w := by
  unfold St.dropped
  cases dropB C.fz with
  | true => exact ⟨fun k x hf => hs.fr k x (find_keep _ _ k x hf), hs.sz, hs.df, hs.hr, hs.ag, hs.nx, hs.kp, hs.nw, hs.rle, hs.rfr, hs.rn⟩
  | false => exact hs

/-- The evaluator's end, of a state of the machine. -/
def QK (C : Cx) (E : En) (K : Exit → St → Prop) : Exit → Act → World → Prop := fun e a w => ∃ s ρ, K e s ∧ SRel C E s ρ a w

open Classical in
theorem code_sound (hA : C.A = .real) (hT : TysOk C.P C.ty) : ∀ (c : Code) {K : Exit → St → Prop} {s : St} {ρ : Nat → Nat} {a : Act} {w : World},
    codeVC C c s K → SRel C E s ρ a w → c.wp C.P (QK C E K) a w := by
  intro c
  induction c with
  | skip => intro K s ρ a w h hs; exact wp_skip ⟨s, ρ, h, hs⟩
  | label l => intro K s ρ a w h hs; exact wp_label ⟨s, ρ, h, hs⟩
  | exit i => intro K s ρ a w h hs; exact wp_exit ⟨s, ρ, h, hs⟩
  | ret => intro K s ρ a w h hs; exact wp_ret ⟨s, ρ, h, hs⟩
  | seq x y ihx ihy =>
    intro K s ρ a w h hs
    refine wp_seq (wp_mono (ihx h hs) ?_)
    rintro e a' w' ⟨s', ρ', h1, h2⟩
    cases e with
    | normal => exact ihy h1 h2
    | _ => exact ⟨s', ρ', h1, h2⟩
  | cond c x y ihx ihy =>
    intro K s ρ a w h hs
    simp only [codeVC] at h
    split at h
    · rename_i b hb
      have h3 := (ev_val hs hb).1
      refine wp_cond h3 ?_
      cases b with
      | true => exact ihx h (dropped_sound hs)
      | false => exact ihy h (dropped_sound hs)
    · exact h.elim
  | block i c ih =>
    intro K s ρ a w h hs
    refine wp_block (wp_mono (ih h hs) ?_)
    rintro e a' w' ⟨s', ρ', h1, h2⟩
    cases e with
    | exit j =>
      simp only [Exit.inBlock]
      simp only [blockK] at h1
      cases hb : Nat.beq j i with
      | true =>
        have := Nat.eq_of_beq_eq_true hb
        simp only [hb, cond_true] at h1
        rw [if_pos this]
        exact ⟨s', ρ', h1, h2⟩
      | false =>
        simp only [hb, cond_false] at h1
        rw [if_neg (fun he => by rw [he] at hb; simp at hb)]
        exact ⟨s', ρ', h1, h2⟩
    | _ => exact ⟨s', ρ', h1, h2⟩
  | region i ops d =>
    intro K s ρ a w h hs
    cases d with
    | true => exact draw_region hA hT h hs fun s' ρ' a' w' k1 k2 => ⟨s', ρ', k1, k2⟩
    | false => exact wp_region (ops_sound hA hT _ h hs fun s' ρ' a' w' k1 k2 => ⟨s', ρ', k1, k2⟩)
  | loop c ih =>
    intro K s ρ a w h hs
    obtain ⟨ι, T, q, ⟨n0, i0, hw0, hn0⟩, hround⟩ := h.go
    let p : Act → World → Nat → Prop := fun a w n => ∃ i ρ, q n i ∧ SRel C E (T i) ρ a w
    let μ : Act → World → Nat := fun a w => if hx : ∃ n, p a w n then Classical.choose (least hx) else 0
    have hμ : ∀ a w, (∃ n, p a w n) → p a w (μ a w) ∧ ∀ m, m < μ a w → ¬ p a w m := fun a w hx => by
      show p a w (dite _ _ _) ∧ ∀ m, m < dite _ _ _ → _
      rw [dif_pos hx]
      exact Classical.choose_spec (least hx)
    refine wp_loop (fun a w => ∃ n, p a w n) μ ⟨n0, i0, ρ, hn0, wk_sound hw0 hs.nx hs⟩ fun a w hx => ?_
    obtain ⟨⟨i1, ρ1, hI, hs1⟩, hmin⟩ := hμ a w hx
    refine wp_mono (ih (hround _ i1 hI) hs1) ?_
    rintro e a' w' ⟨s', ρ', h1, h2⟩
    cases e with
    | normal =>
      obtain ⟨m, j, hm, hwj, hIm⟩ := h1
      have hex : ∃ n, p a' w' n := ⟨m, j, ρ', hIm, wk_sound hwj hs1.nx h2⟩
      refine ⟨hex, ?_⟩
      have := (hμ a' w' hex).2
      rcases Nat.lt_or_ge (μ a' w') (μ a w) with h3 | h3
      · exact h3
      · exact absurd ⟨j, ρ', hIm, wk_sound hwj hs1.nx h2⟩ (this m (by omega))
    | _ => exact ⟨s', ρ', h1, h2⟩
  | rangeFunc f ps x y => intro K s ρ a w h hs; exact h.elim
  | goto l => intro K s ρ a w h hs; exact h.elim
  | refuse y => intro K s ρ a w h hs; exact h.elim
  | scope x => intro K s ρ a w h hs; exact h.elim

theorem res_sound (hT : TysOk C.P C.ty) {s : St} {ρ : Nat → Nat} {a : Act} {w : World} (hs : SRel C E s ρ a w) : ∀ (rs : List ResultVar) (xs : List SV), resVC C s rs = some xs →
    (rs.mapM (fun | .tmp t => (pure (a.tmps.getD t undef) : Sem Value) | .cell d T => do loadVar T (← asAddr (a.tmps.getD d undef))) : Sem (List Value)).run C.P w = .ok (valL ρ xs) w ∧ labL s.nx xs
  | [], xs, h => by simp [resVC] at h; subst h; exact ⟨rfl, trivial⟩
  | .tmp t :: r, xs, h => by
    simp only [resVC] at h
    split at h
    · rename_i x l hx hl
      simp at h; subst h
      obtain ⟨h1, h2⟩ := hs.fr _ _ hx
      obtain ⟨h3, h4⟩ := res_sound hT hs r l hl
      refine ⟨?_, h2, h4⟩
      rw [List.mapM_cons]
      simp only [bind] at h3 ⊢
      rw [run_bind_pure (run_pure (P := C.P) (w := w) (a.tmps.getD t undef)), run_bind_pure h3]
      simp [Array.getD_eq_getD_getElem?, h1, valL, run_pure]
    · simp at h
  | .cell d T :: r, xs, h => by
    simp only [resVC] at h
    split at h
    · rename_i l off t ys hx ht hl
      split at h
      · rename_i b hb
        split at h
        · rename_i x hxx
          simp at h; subst h
          obtain ⟨h1, h2⟩ := hs.fr _ _ hx
          obtain ⟨h3, h4⟩ := res_sound hT hs r ys hl
          refine ⟨?_, takeAt_lab hxx (hs.hr.wf _ _ hb).2, h4⟩
          rw [List.mapM_cons]
          simp only [bind] at h3 ⊢
          have hload := takeAt_load (P := C.P) (hT _ _ ht) hxx (hs.hr.blk _ _ hb)
          have h5 : (Sem.bind (asAddr (a.tmps.getD d undef)) fun a => loadVar T a).run C.P w = .ok (val ρ x) w := by
            have : a.tmps.getD d undef = .pointer (some ⟨ρ l, off, none⟩) := by simp [Array.getD_eq_getD_getElem?, h1, val]
            rw [this]
            exact hload
          rw [run_bind_pure h5, run_bind_pure h3]
          simp [valL, run_pure]
        · simp at h
      · simp at h
    · simp at h

theorem results_sound (hT : TysOk C.P C.ty) {s : St} {ρ : Nat → Nat} {a : Act} {w : World} (hs : SRel C E s ρ a w) {fn : Func} {xs : List SV} (h : resVC C s fn.results.toList = some xs) :
    (results fn a.tmps).run C.P w = .ok (val ρ (retSV xs)) w ∧ lab s.nx (retSV xs) := by
  obtain ⟨h1, h2⟩ := res_sound hT hs _ _ h
  refine ⟨?_, ?_⟩
  · unfold results
    rw [Array.mapM_eq_mapM_toList]
    simp only [Functor.map, bind] at h1 ⊢
    have h3 : (Sem.bind (fn.results.toList.mapM (fun | .tmp t => (pure (a.tmps.getD t undef) : Sem Value) | .cell d T => (asAddr (a.tmps.getD d undef)).bind fun a => loadVar T a)) (fun x => pure x.toArray) : Sem (Array Value)).run C.P w = .ok (valL ρ xs).toArray w := by
      rw [run_bind_pure h1]; rfl
    have h4 := run_bind_pure (f := fun (vs : Array Value) => (pure (if h : vs.size = 1 then vs[0] else .tuple vs) : Sem Value)) h3
    refine h4.trans ?_
    match xs with
    | [] => simp [valL, retSV, run_pure, val]
    | [x] => simp [valL, retSV, run_pure]
    | x :: y :: r => simp [valL, retSV, run_pure, val]
  · match xs, h2 with
    | [], h2 => exact trivial
    | [x], h2 => exact h2.1
    | x :: y :: r, h2 => exact h2

theorem fr0_find : ∀ (xs : List SV) (i t : Nat) (x : SV), find (fr0 i xs) t = some x → i ≤ t ∧ xs[t - i]? = some x
  | [], i, t, x, h => by simp [fr0, find] at h
  | y :: xs, i, t, x, h => by
    simp only [fr0, find_cons] at h
    by_cases he : i = t
    · subst he; simp at h; subst h; simp
    · simp only [he, if_false] at h
      obtain ⟨h1, h2⟩ := fr0_find xs (i + 1) t x h
      refine ⟨by omega, ?_⟩
      rw [show t - i = (t - (i + 1)) + 1 by omega]
      simpa using h2

theorem HRel.keep {R : RO} {hp : List (Nat × HB)} {nx : Nat} {rs : List Row} {ρ : Nat → Nat} {w w' : World} (hr : HRel R hp nx rs ρ w) (h4 : Keep (fun _ => False) w w') : HRel R hp nx rs ρ w' := by
  have hg : w.grownBy w' none := ⟨h4.os, h4.tape, h4.output, h4.size, fun k hk _ => h4.block k hk (fun h => h)⟩
  refine ⟨?_, hr.inj, ?_, ?_, hr.dis, hr.wf, ?_, hr.rdis, hr.rpair⟩
  · intro l b hb
    rw [h4.block _ (hr.lt l (hr.wf l b hb).1) (fun h => h)]
    exact hr.blk l b hb
  · intro l hl; exact Nat.lt_of_lt_of_le (hr.lt l hl) h4.size
  · intro b o hb
    have h1 := hr.ro b o hb
    have hlt : b < w.heap.size := by
      rcases Nat.lt_or_ge b w.heap.size with h2 | h2
      · exact h2
      · rw [Array.getElem?_eq_none h2] at h1; cases h1
    rw [h4.block b hlt (fun h => h)]
    exact h1
  · intro q hq
    refine (hr.row q hq).kept hg ?_
    cases hb : q.v.ownBlock with
    | none => exact .inl rfl
    | some g => exact .inr (by simp)

theorem SRel.keep {C : Cx} {E : En} {s : St} {ρ : Nat → Nat} {a : Act} {w w' : World} (hs : SRel C E s ρ a w) (h4 : Keep (fun _ => False) w w') : SRel C E s ρ a w' :=
  ⟨hs.fr, hs.sz, hs.df, hs.hr.keep h4, hs.ag, hs.nx, hs.kp.trans h4 (fun x _ h => h.elim), hs.nw, hs.rle, hs.rfr, hs.rn⟩

theorem leaves_harm {P : Program} {fn : Func} {tmps : Array Value} {R : Ending → World → Prop} {w : World} (hr : ∀ w', Keep (fun _ => False) w w' → ∃ v, (results fn tmps).run P w' = .ok v w' ∧ R (.returned v) w') : ∀ (ds : List Deferred), (∀ d ∈ ds, Harm P d) → ∀ w', Keep (fun _ => False) w w' → Leaves P fn tmps R ds .returning w'
  | [], _, w', hk => let ⟨v, h1, h2⟩ := hr w' hk; ⟨v, h1, h2⟩
  | d :: ds, h, w', hk => by
    obtain ⟨fv, cap, f, args, h1, h2, h3⟩ := h d (List.mem_cons_self ..)
    refine ⟨by simp, fv, cap, f, args, h1, h2 w', (h3 w').mono ?_⟩
    rintro e u w'' ⟨⟨v', rfl⟩, rfl, hk2⟩
    exact leaves_harm hr ds (fun d hd => h d (List.mem_cons_of_mem _ hd)) w'' (hk.trans hk2 (fun x _ h => h))

/-- A call of a function, by its body. -/
theorem callP_of_vc {P : Program} {f : Nat} {fn : Func} {c : Code} {tys : Nat → Option Ty} {fz : List Nat} {args : List SV} {R : RO} {hp : List (Nat × HB)} {nx : Nat} {rs : List Row} {K : RO → List (Nat × HB) → Nat → List Row → SV → Prop}
    (hf : P.funcs[f]? = some fn) (hb : fn.body = some c) (hn : fn.name ≠ "runtime.NumGoroutine") (hlen : args.length ≤ fn.ntmps)
    (hT : TysOk P tys) (hl : labL nx args)
    (h : ∀ P' A, P' = P → A = Ar.real → codeVC ⟨P', A, tys, fn.ntmps, fz⟩ c ⟨fr0 0 args, R, hp, nx, rs⟩ (endVC ⟨P', A, tys, fn.ntmps, fz⟩ fn.results.toList fun s r => K s.R s.hp s.nx s.rw_ r)) :
    CallP P f args R hp nx rs K := by
  refine ⟨⟨fn, hf, hn, by simp [hb]⟩, fun ρ w hr => ?_⟩
  have h := h _ _ rfl rfl
  let E : En := ⟨w, ρ, nx, R, rs⟩
  refine calls_of_wp_defers hf hb ?_
  have hs : SRel ⟨P, .real, tys, fn.ntmps, fz⟩ E ⟨fr0 0 args, R, hp, nx, rs⟩ ρ ⟨(valL ρ args).toArray ++ Array.replicate (fn.ntmps - (valL ρ args).toArray.size) undef, []⟩ w := by
    refine ⟨?_, ?_, ⟨fun d hd => absurd hd (by simp), fun _ => rfl⟩, hr, fun l _ => rfl, Nat.le_refl _, .refl _ _, fun l h1 h2 => absurd h2 (by simp [E] at h1 ⊢; omega), fun _ _ h => h, fun _ _ h => .inl h, fun r hr g hg => .inr (.inr ⟨r, hr, hg⟩)⟩
    · intro t x hx
      obtain ⟨_, h2⟩ := fr0_find _ _ _ _ hx
      simp only [Nat.sub_zero] at h2
      have hlt : t < args.length := by
        rcases Nat.lt_or_ge t args.length with h3 | h3
        · exact h3
        · rw [List.getElem?_eq_none h3] at h2; cases h2
      refine ⟨?_, (labL_iff _ _).1 hl x (List.mem_of_getElem? h2)⟩
      rw [List.getElem?_eq_getElem hlt] at h2
      simp only [Option.some.injEq] at h2
      rw [Array.getElem?_append]
      simp [valL_map, hlt, h2]
    · simp [valL_map]; omega
  refine wp_mono (code_sound (C := ⟨P, .real, tys, fn.ntmps, fz⟩) rfl hT c h hs) ?_
  rintro e a' w' ⟨s', ρ', h1, h2⟩
  have fin : ∀ xs, resVC ⟨P, .real, tys, fn.ntmps, fz⟩ s' fn.results.toList = some xs → K s'.R s'.hp s'.nx s'.rw_ (retSV xs) → Leaves P fn a'.tmps (fun e w' =>
      ∃ R' hp' nx' rs' ρ' r, (∀ l, l < nx → ρ' l = ρ l) ∧ nx ≤ nx' ∧ (∀ l, nx ≤ l → l < nx' → w.heap.size ≤ ρ' l) ∧ R.le R' ∧ RO.fresh w (Own ρ nx rs) R R' ∧ HRel R' hp' nx' rs' ρ' w' ∧ Keep (Own ρ nx rs) w w' ∧
        (∀ q ∈ rs', ∀ g, q.blk = some g → w.heap.size ≤ g ∨ Own ρ nx rs g) ∧ e = .returned (val ρ' r) ∧ lab nx' r ∧ K R' hp' nx' rs' r) a'.defers .returning w' := by
    intro xs hx hK
    refine leaves_harm (fun w'' hk2 => ?_) _ h2.df.1 w' (.refl _ _)
    have h2 := h2.keep hk2
    obtain ⟨r1, r2⟩ := results_sound hT h2 hx
    exact ⟨_, r1, s'.R, s'.hp, s'.nx, s'.rw_, ρ', retSV xs, h2.ag, h2.nx, h2.nw, h2.rle, h2.rfr, h2.hr, h2.kp, h2.rn, rfl, r2, hK⟩
  cases e with
  | normal =>
    simp only [endVC] at h1
    split at h1
    · rename_i xs hx; exact fin xs hx h1
    · exact h1.elim
  | ret =>
    simp only [endVC] at h1
    split at h1
    · rename_i xs hx; exact fin xs hx h1
    · exact h1.elim
  | _ => exact h1.elim

/-- A deferred call, by its body. -/
theorem callsD_of_vc {P : Program} {f : Nat} {fn : Func} {c : Code} {tys : Nat → Option Ty} {args : Array Value} {u : FrameMode} (hf : P.funcs[f]? = some fn) (hb : fn.body = some c) (hlen : args.size ≤ fn.ntmps) (hT : TysOk P tys)
    (h : ∀ P' A, P' = P → A = Ar.real → codeVC ⟨P', A, tys, fn.ntmps, [499]⟩ c ⟨fr0 0 (args.toList.map .v), fun _ => none, [], 0, []⟩ (endVC ⟨P', A, tys, fn.ntmps, [499]⟩ fn.results.toList fun s r => True)) (w : World) :
    CallsD P f args u w fun e u' w' => u' = u ∧ ((∃ v, e = .returned v) ∧ Keep (fun _ => False) w w') := by
  have h := h _ _ rfl rfl
  let E : En := ⟨w, fun _ => 0, 0, fun _ => none, []⟩
  refine callsD_of_wp hf hb ?_
  have hs : SRel ⟨P, .real, tys, fn.ntmps, [499]⟩ E ⟨fr0 0 (args.toList.map .v), fun _ => none, [], 0, []⟩ (fun _ => 0) ⟨args ++ Array.replicate (fn.ntmps - args.size) undef, []⟩ w := by
    refine ⟨?_, ?_, ⟨fun d hd => absurd hd (by simp), fun _ => rfl⟩, ⟨fun l b hf => by simp [find] at hf, fun l _ hl => absurd hl (Nat.not_lt_zero _), fun l hl => absurd hl (Nat.not_lt_zero _), fun b o hb => (by cases hb), fun l b hf => by simp [find] at hf, fun l b hf => by simp [find] at hf, fun r hr => by simp at hr, fun r hr => by simp at hr, List.Pairwise.nil⟩, fun l _ => rfl, Nat.le_refl _, .refl _ _, fun l h1 h2 => absurd h2 (by simp), fun _ _ h => h, fun _ _ h => .inl h, fun r hr => by simp at hr⟩
    · intro t x hx
      obtain ⟨_, h2⟩ := fr0_find _ _ _ _ hx
      simp only [Nat.sub_zero, List.getElem?_map, Option.map_eq_some_iff] at h2
      obtain ⟨y, hy, rfl⟩ := h2
      have hlt : t < args.size := by
        rcases Nat.lt_or_ge t args.toList.length with h3 | h3
        · simpa using h3
        · rw [List.getElem?_eq_none h3] at hy; cases hy
      refine ⟨?_, trivial⟩
      rw [Array.getElem?_append, if_pos hlt, ← Array.getElem?_toList, hy]
      rfl
    · simp; omega
  refine wp_mono (code_sound (C := ⟨P, .real, tys, fn.ntmps, [499]⟩) rfl hT c h hs) ?_
  have hown : ∀ b, ¬ E.own b := fun b hb => by
    rcases hb with ⟨l, hl, _⟩ | ⟨r, hr, _⟩
    · simp [E] at hl
    · simp [E] at hr
  rintro e a' w' ⟨s', ρ', h1, h2⟩
  have fin : ∀ xs, resVC ⟨P, .real, tys, fn.ntmps, [499]⟩ s' fn.results.toList = some xs → a'.defers = [] ∧ ∃ v, (results fn a'.tmps).run P w' = .ok v w' ∧ ((∃ v', Ending.returned v = .returned v') ∧ Keep (fun _ => False) w w') := by
    intro xs hx
    obtain ⟨r1, r2⟩ := results_sound hT h2 hx
    have hk := h2.kp
    exact ⟨h2.df.2 rfl, _, r1, ⟨_, rfl⟩, ⟨hk.os, hk.tape, hk.output, hk.size, fun k hk' _ => hk.block k hk' (hown k)⟩⟩
  cases e with
  | normal =>
    simp only [endVC] at h1
    split at h1
    · rename_i xs hx; exact fin xs hx
    · exact h1.elim
  | ret =>
    simp only [endVC] at h1
    split at h1
    · rename_i xs hx; exact fin xs hx
    · exact h1.elim
  | _ => exact h1.elim
end
end Go.Se
