/- The evaluator is sound: every operation, calls among them. -/
import Derived.Test.YtepfbdfbfimefaaDoorSq
set_option linter.unusedSimpArgs false
set_option linter.unusedVariables false
namespace Go.Se
open Go

theorem mkOk_ok {m n : Nat} (h : (Nat.beq m n && !Nat.beq n 4096) = true) : m = n ∧ n ≠ 4096 := by
  simp only [Bool.and_eq_true, Bool.not_eq_true'] at h
  exact ⟨Nat.eq_of_beq_eq_true h.1, fun e => by have := h.2; rw [e] at this; simp [Nat.beq_refl] at this⟩

theorem apOk_ok {C : Cx} {d : Option Tmp} {t : Ty} (h : apOk C d t = true) : (zeroCells t).length = t.size ∧ t.size ≠ 4096 := by
  unfold apOk at h
  simp only [Bool.and_eq_true, Bool.not_eq_true'] at h
  exact ⟨Nat.eq_of_beq_eq_true h.1.1, fun e => by have := h.1.2; rw [e] at this; simp [Nat.beq_refl] at this⟩

section
variable {C : Cx} {E : En} {s : St} {ρ : Nat → Nat} {a : Act} {w : World}

theorem Does.wp {o : Oper} {K : St → Prop} (h : Does C E s ρ o a w K) {next : Act → World → Prop} {Q : Exit → Act → World → Prop}
    (hk : ∀ s' ρ' a' w', K s' → SRel C E s' ρ' a' w' → Adv s s' ρ ρ' → next a' w') : o.wp C.P a w next Q := by
  obtain ⟨x, w', s', ρ', hr, h1, h2, h3⟩ := h
  unfold Oper.wp
  rw [hr]
  exact hk _ _ _ _ h1 h2 h3

/-- A world that fits, in the place of another. -/
theorem SRel.atW (hs : SRel C E s ρ a w) {w' : World} (h : HRel s.R s.hp s.nx s.rw_ ρ w') : SRel C ⟨{ w' with heap := #[] }, ρ, 0, s.R, s.rw_⟩ s ρ a w' :=
  ⟨hs.fr, hs.sz, hs.df, h, fun _ _ => rfl, Nat.zero_le _, ⟨rfl, rfl, rfl, Nat.zero_le _, fun k hk => absurd hk (by simp)⟩, fun _ _ _ => Nat.zero_le _, fun _ _ h => h, fun _ _ h => .inl h, fun _ _ _ _ => .inl (Nat.zero_le _)⟩

theorem run_newRow {P : Program} {T : Nat} {cs : Array Value} : (newRow T cs).run P w = .ok ⟨w.heap.size, 0, none⟩ { w with heap := w.heap.push (.cells cs T) } := by
  simp [newRow, newObj, bind, Sem.bind, Sem.run, pure]

theorem does_new (hs : SRel C E s ρ a w) {o : Oper} {T : Nat} {cs : List SV} {K : St → Prop} {v : SV} (hl : labL s.nx cs) (hv : v = .p s.nx 0 ∨ ∃ n, v = .se s.nx 0 n n)
    (h : (s.new T cs).put C o.dst v K)
    (hr : ∀ ρ' : Nat → Nat, ρ' s.nx = w.heap.size → (execOp a.eval o).run C.P w = .ok (.value (val ρ' v)) { w with heap := w.heap.push (.cells (valL ρ cs).toArray T) }) :
    Does C E s ρ o a w K := by
  obtain ⟨h1, h2⟩ := new_sound hs T hl
  refine does_of (hr _ ?_) h h1 ?_ ⟨fun l hl => ?_, fun _ _ h => h, ?_⟩
  · simp
  · rcases hv with rfl | ⟨n, rfl⟩ <;> simp [lab, St.new]
  · show (if l = s.nx then w.heap.size else ρ l) = ρ l
    rw [if_neg (by omega)]
  · simp [St.new]

/-- A new block, of the call's own or told of at once. -/
theorem does_newF (hs : SRel C E s ρ a w) {o : Oper} {T : Nat} {cs : List SV} {K : St → Prop} {v : SV} {fz : Bool} (hl : labL s.nx cs) (hv : v = .p s.nx 0 ∨ ∃ n, v = .se s.nx 0 n n) (fv : Nat → Value) (hfv : ∀ ρ' : Nat → Nat, val ρ' v = fv (ρ' s.nx))
    (h : (bif fz then (fun _ : Unit => FrzP s T cs fun R' b => ({ s with R := R' } : St).put C o.dst (.v (fv b)) K) else fun _ => (s.new T cs).put C o.dst v K) ())
    (hr : ∀ ρ' : Nat → Nat, ρ' s.nx = w.heap.size → (execOp a.eval o).run C.P w = .ok (.value (val ρ' v)) { w with heap := w.heap.push (.cells (valL ρ cs).toArray T) }) :
    Does C E s ρ o a w K := by
  cases fz with
  | false => exact does_new hs hl hv h hr
  | true =>
    obtain ⟨R', h1, h2, h3⟩ := frz_sound hs h
    refine does_of (s' := { s with R := R' }) (ρ' := ρ) (v := .v (fv w.heap.size)) ?_ h2 h1 trivial ⟨fun _ _ => rfl, h3, Nat.le_refl _⟩
    rw [hr (fun l => if l = s.nx then w.heap.size else ρ l) (by simp), hfv]
    simp [val]

theorem own_up (hs : SRel C E s ρ a w) {x : Nat} (h : Own ρ s.nx s.rw_ x) : E.w.heap.size ≤ x ∨ E.own x := by
  rcases h with ⟨l, hl, rfl⟩ | ⟨r, hr, hg⟩
  · exact label_own hs hl
  · exact hs.rn r hr x hg

/-- A quiet operation: one value, in every world that fits; the world stays. -/
def QDoes (C : Cx) (s : St) (ρ : Nat → Nat) (o : Oper) (a : Act) (K : St → Prop) : Prop :=
  ∃ v, lab s.nx v ∧ s.put C o.dst v K ∧ ∀ w' : World, HRel s.R s.hp s.nx s.rw_ ρ w' → (execOp a.eval o).run C.P w' = .ok (.value (val ρ v)) w'

theorem QDoes.wp {o : Oper} {K : St → Prop} (h : QDoes C s ρ o a K) (hs : SRel C E s ρ a w) {next : Act → World → Prop} {Q : Exit → Act → World → Prop}
    (hk : ∀ s' ρ' a' w', K s' → SRel C E s' ρ' a' w' → Adv s s' ρ ρ' → next a' w') : o.wp C.P a w next Q := by
  obtain ⟨v, h1, h2, h3⟩ := h
  exact (does_of (h3 w hs.hr) h2 hs h1 (.refl _ _)).wp hk

theorem pure_op {o : Oper} {v : SV} {K : St → Prop} (hl : lab s.nx v) (h : s.put C o.dst v K) {e : Sem Value}
    (he : execOp a.eval o = (do pure (Next.value (← e)))) (hr : ∀ w' : World, HRel s.R s.hp s.nx s.rw_ ρ w' → e.run C.P w' = .ok (val ρ v) w') : QDoes C s ρ o a K :=
  ⟨v, hl, h, fun w' hw => by rw [he]; exact run_v (hr w' hw)⟩

theorem here_op {o : Oper} {v : SV} {K : St → Prop} (hl : lab s.nx v) (h : s.put C o.dst v K)
    (hr : ∀ w' : World, HRel s.R s.hp s.nx s.rw_ ρ w' → (execOp a.eval o).run C.P w' = .ok (.value (val ρ v)) w') : QDoes C s ρ o a K := ⟨v, hl, h, hr⟩

theorem td_str {d : TypeDesc} (h : tdOf d = .str) : d = .string := by cases d <;> simp [tdOf] at h <;> rfl

theorem foldl_push (l : List UInt8) : ∀ (b : ByteArray), (l.foldl (fun r n => r.push n) b).data.toList = b.data.toList ++ l := by
  induction l with
  | nil => simp
  | cons x l ih => intro b; simp [ih]

theorem bytes_back (bs : ByteArray) : (bs.data.toList.map fun b => (b.toNat : Int)).foldl (fun r n => r.push (UInt8.ofNat n.toNat)) ByteArray.empty = bs := by
  rw [List.foldl_map]
  have h1 : (fun (r : ByteArray) (b : UInt8) => r.push (UInt8.ofNat ((b.toNat : Int)).toNat)) = fun r b => r.push b := by
    funext r b
    simp
  rw [h1]
  have := foldl_push bs.data.toList ByteArray.empty
  apply ByteArray.ext
  apply Array.ext'
  rw [this]
  simp

theorem tostr_sound {S D e m : Nat} {x : SV} {bs : ByteArray} {news : List Value} {w' : World} (hr : HRel s.R s.hp s.nx s.rw_ ρ w') (h1 : C.P.underlying S = some (.slice e)) (h2 : C.P.underlying D = some .string) (h3 : C.P.underlying e = some (.int .u8))
    (h : SrcK s 1 x m news) (hn : news = byteCells bs) (hx : ∀ y, x ≠ .v (.string y)) : (convert S D (val ρ x)).run C.P w' = .ok (.string bs) w' := by
  have hsrc := src_sound (P := C.P) (hs := hr) (tx := S) (.inl ⟨e, h1⟩) h
  have hbl := hsrc.newsLen
  have hcs := hsrc.cells
  rw [hn, byteCells_length] at hbl
  rw [hn] at hcs
  cases h with
  | nil c =>
    have : bs.size = 0 := by omega
    have hb : bs = ByteArray.empty := by
      apply ByteArray.ext
      exact Array.eq_empty_of_size_eq_zero this
    subst hb
    simp only [val, convert, bind]
    rw [run_bind_pure (run_und h1), run_bind_pure (run_und h2)]
    simp only
    rw [run_bind_pure (run_und h3)]
    rfl
  | raw ad m c news hl hc ho =>
    simp only [val, Builtin.firstCells, Nat.mul_one] at hcs
    simp only [val, convert, bind]
    rw [run_bind_pure (run_und h1), run_bind_pure (run_und h2)]
    simp only
    rw [run_bind_pure (run_und h3)]
    have := run_bytesToString (P := C.P) w' ad m c (bs.data.toList.map fun b => (b.toNat : Int)) (by rw [hcs]; simp [byteCells])
    rw [bytes_back] at this
    exact this
  | own l o m c b news hb hn hl ho =>
    simp only [val, Builtin.firstCells, Nat.mul_one] at hcs
    simp only [val, convert, bind]
    rw [run_bind_pure (run_und h1), run_bind_pure (run_und h2)]
    simp only
    rw [run_bind_pure (run_und h3)]
    have := run_bytesToString (P := C.P) w' ⟨ρ l, o, none⟩ m c (bs.data.toList.map fun b => (b.toNat : Int)) (by rw [hcs]; simp [byteCells])
    rw [bytes_back] at this
    exact this
  | str y ho => exact absurd rfl (hx y)

theorem rawH_sound (hs : SRel C E s ρ a w) {o : Oper} {K : St → Prop} (h : RawH C s o fun r => s.put C o.dst r K) : QDoes C s ρ o a K := by
  obtain ⟨r, h1, h2, h3⟩ := h.go
  exact ⟨r, h1, h2, fun w' hr' => h3 ρ w' hr' a.eval fun x v hv => (ev_val hs hv).1⟩

/-- What comes behind an operation that turns memory. -/
theorem after_sound (hs : SRel C E s ρ a w) {R' : RO} {hp' : List (Nat × HB)} {nx' : Nat} {rs' : List Row} {ρ' : Nat → Nat} {w' : World} (q1 : ∀ l, l < s.nx → ρ' l = ρ l) (q2 : s.nx ≤ nx') (q3 : ∀ l, s.nx ≤ l → l < nx' → w.heap.size ≤ ρ' l)
    (q4 : s.R.le R') (q5 : RO.fresh w (Own ρ s.nx s.rw_) s.R R') (q6 : HRel R' hp' nx' rs' ρ' w') (q7 : Keep (Own ρ s.nx s.rw_) w w') (qr : ∀ q ∈ rs', ∀ g, q.blk = some g → w.heap.size ≤ g ∨ Own ρ s.nx s.rw_ g) :
    SRel C E { s with R := R', hp := hp', nx := nx', rw_ := rs' } ρ' a w' := by
  have hsz := hs.kp.size
  refine ⟨?_, hs.sz, hs.df, q6, ?_, Nat.le_trans hs.nx q2, ?_, ?_, fun b ob hb => q4 _ _ (hs.rle _ _ hb), ?_, ?_⟩
  · intro t x hf
    obtain ⟨f1, f2⟩ := hs.fr t x hf
    exact ⟨by rw [f1, val_agree q1 x f2], lab_mono q2 x f2⟩
  · intro l hl
    have := hs.nx
    rw [q1 l (by omega)]
    exact hs.ag l hl
  · refine hs.kp.trans q7 fun x hx he => ?_
    rcases own_up hs he with h' | h'
    · omega
    · exact h'
  · intro l hl hl'
    rcases Nat.lt_or_ge l s.nx with h' | h'
    · rw [q1 l h']; exact hs.nw l hl h'
    · have := q3 l h' hl'
      omega
  · intro b ob hb
    rcases q5 b ob hb with h' | h' | h'
    · exact hs.rfr b ob h'
    · exact .inr (.inl (by omega))
    · exact .inr (own_up hs h')
  · intro q hq g hg
    rcases qr q hq g hg with h' | h'
    · exact .inl (by omega)
    · exact own_up hs h'

theorem genP_sound (hs : SRel C E s ρ a w) {o : Oper} {K : St → Prop} (h : GenP C s o fun R' hp' nx' rs' r => ({ s with R := R', hp := hp', nx := nx', rw_ := rs' } : St).put C o.dst r K)
    {next : Act → World → Prop} {Q : Exit → Act → World → Prop} (hk : ∀ s' ρ' a' w', K s' → SRel C E s' ρ' a' w' → Adv s s' ρ ρ' → next a' w') : o.wp C.P a w next Q := by
  have hg := h.go ρ w hs.hr a.eval fun x v hv => (ev_val hs hv).1
  have fin : ∀ u w', (∃ R' hp' nx' rs' ρ' r, (∀ l, l < s.nx → ρ' l = ρ l) ∧ s.nx ≤ nx' ∧ (∀ l, s.nx ≤ l → l < nx' → w.heap.size ≤ ρ' l) ∧ s.R.le R' ∧ RO.fresh w (Own ρ s.nx s.rw_) s.R R' ∧ HRel R' hp' nx' rs' ρ' w' ∧ Keep (Own ρ s.nx s.rw_) w w' ∧
      (∀ q ∈ rs', ∀ g, q.blk = some g → w.heap.size ≤ g ∨ Own ρ s.nx s.rw_ g) ∧ u = val ρ' r ∧ lab nx' r ∧ ({ s with R := R', hp := hp', nx := nx', rw_ := rs' } : St).put C o.dst r K) → next (a.put o.dst u) w' := by
    rintro u w' ⟨R', hp', nx', rs', ρ', r, q1, q2, q3, q4, q5, q6, q7, qr, rfl, q9, q10⟩
    obtain ⟨s', k1, k2, k3⟩ := put_sound' q10 (after_sound hs q1 q2 q3 q4 q5 q6 q7 qr) q9
    exact hk _ _ _ _ k1 k2 (Adv.trans (s' := { s with R := R', hp := hp', nx := nx', rw_ := rs' }) ⟨q1, q4, q2⟩ k3)
  unfold Oper.wp
  generalize (execOp a.eval o).run C.P w = res at hg
  cases res with
  | ok x w' =>
    cases x <;> try exact hg.elim
    · exact fin _ _ hg
    · exact fin _ _ hg
    · simp only [Ups] at hg
      simp only [Oper.upon]
      refine hg.mono fun e w'' => ?_
      rintro ⟨v, rfl, hp⟩
      exact fin _ _ hp
  | _ => exact hg.elim

/-- A call, once it is known what is entered. -/
theorem callp_sound (hs : SRel C E s ρ a w) {o : Oper} {f : Nat} {vs : List SV} {K : St → Prop} (h : CallP C.P f vs s.R s.hp s.nx s.rw_ fun R' hp' nx' rs' r => ({ s with R := R', hp := hp', nx := nx', rw_ := rs' } : St).put C o.dst r K)
    (hrun : ∀ g, C.P.funcs[f]? = some g → g.name ≠ "runtime.NumGoroutine" → g.body.isSome = true → (execOp a.eval o).run C.P w = .ok (.enter f (valL ρ vs).toArray) w)
    {next : Act → World → Prop} {Q : Exit → Act → World → Prop} (hk : ∀ s' ρ' a' w', K s' → SRel C E s' ρ' a' w' → Adv s s' ρ ρ' → next a' w') : o.wp C.P a w next Q := by
  obtain ⟨⟨g, hg1, hg2, hg3⟩, hgo⟩ := h
  unfold Oper.wp
  rw [hrun g hg1 hg2 hg3]
  simp only [Oper.upon]
  refine (hgo ρ w hs.hr).mono fun e w' hpost => ?_
  obtain ⟨R', hp', nx', rs', ρ', r, q1, q2, q3, q4, q5, q6, q7, qr, q8, q9, q10⟩ := hpost
  subst q8
  obtain ⟨s', k1, k2, k3⟩ := put_sound' q10 (after_sound hs q1 q2 q3 q4 q5 q6 q7 qr) q9
  exact hk _ _ _ _ k1 k2 (Adv.trans (s' := { s with R := R', hp := hp', nx := nx', rw_ := rs' }) ⟨q1, q4, q2⟩ k3)

theorem enter_dyn {P : Program} {w : World} {o : Oper} {ev : Operand → Value} {c : Call} {t f : Nat} {g : Func} {xs vs ys : List Value} (ho : o.op = .call c) (hc : c.callee = .value (.tmp t)) (ht : ev (.tmp t) = .func (.func f) xs.toArray ys.toArray) (ha : c.args.map ev = vs.toArray)
    (hg1 : P.funcs[f]? = some g) (hg2 : g.name ≠ "runtime.NumGoroutine") (hg3 : g.body.isSome = true) : (execOp ev o).run P w = .ok (.enter f (xs ++ vs ++ ys).toArray) w := by
  unfold execOp; rw [ho]; simp only
  simp only [resolve, hc, ht, Deferred.ofValue, bind, pure, Sem.bind, invoke, callFunc, program, Sem.run]
  simp only [hg1, ha]
  have hn : (g.name == "runtime.NumGoroutine") = false := by simpa using hg2
  have hb : g.body.isNone = false := by cases hgb : g.body <;> simp_all
  simp [hn, hb, Sem.run]

theorem op_quiet (hA : C.A = .real) (hT : TysOk C.P C.ty) (hs : SRel C E s ρ a w) {o : Oper} {K : St → Prop} (h : opVQ C s o K) (hq : quietK o.op = true) : QDoes C s ρ o a K := by
  have hnat : ∀ n, val ρ (natI C n) = goInt n := fun n => by simp [natI, val, hA, Ar.real, goInt]
  unfold opVQ at h
  split at h
  · -- move
    rename_i x ho
    split at h
    · rename_i v hv
      obtain ⟨h1, h2⟩ := ev_val hs hv
      exact here_op h2 h fun w' hr' => by unfold execOp; rw [ho]; simp only; rw [h1]; rfl
    · first | exact h.no.elim | exact rawH_sound hs h
  · rename_i x ho
    split at h
    · rename_i v hv
      obtain ⟨h1, h2⟩ := ev_val hs hv
      exact here_op h2 h fun w' hr' => by unfold execOp; rw [ho]; simp only; rw [h1]; rfl
    · first | exact h.no.elim | exact rawH_sound hs h
  · -- pick
    rename_i c x y ho
    have pk : ∀ {b : Bool} {v : SV}, s.ev c = some (.v (.bool b)) → s.ev (if b then x else y) = some v → s.put C o.dst v K → QDoes C s ρ o a K := by
      intro b v hc hv hp
      obtain ⟨h1, h2⟩ := ev_val hs hv
      have h3 := (ev_val hs hc).1
      refine here_op h2 hp ?_
      intro w' hr'
      unfold execOp; rw [ho]; simp only; rw [h3]
      simp only [val, asBool, bind, pure, Sem.bind]
      cases b <;> simp_all [Sem.run]
    split at h
    · rename_i b u v hc hu hv
      unfold br at h
      cases b with
      | true => exact pk hc (by simpa using hu) h
      | false => exact pk hc (by simpa using hv) h
    · rename_i b u hc hu hv
      obtain ⟨h1, h2⟩ := h
      exact pk hc (by rw [h1]; simpa using hu) h2
    · rename_i b v hc hu hv
      obtain ⟨h1, h2⟩ := h
      exact pk hc (by rw [h1]; simpa using hv) h2
    · first | exact h.no.elim | exact rawH_sound hs h
  · exfalso
    rename_i ho
    rw [ho] at hq
    simp [quietK] at hq
  · exfalso
    rename_i ho
    rw [ho] at hq
    simp [quietK] at hq
  · -- build
    rename_i T parts ho
    split at h
    · rename_i t vs ht hv
      split at h
      · rename_i cs hp hf
        obtain ⟨h1, h2⟩ := build_sound hA hT hs ht hp hv hf
        exact pure_op h2 h (by unfold execOp; rw [ho]) fun w' hr' => (build_sound hA hT (hs.atW hr') ht hp hv hf).1
      · first | exact h.no.elim | exact rawH_sound hs h
    · first | exact h.no.elim | exact rawH_sound hs h
  · exfalso
    rename_i ho
    rw [ho] at hq
    simp [quietK] at hq
  · -- load
    rename_i T x ho
    split at h
    · rename_i l off t hx ht
      split at h
      · rename_i b hb
        split at h
        · rename_i v hv
          have h1 := (ev_val hs hx).1
          exact pure_op (takeAt_lab hv (hs.hr.wf _ _ hb).2) h (by unfold execOp; rw [ho]) fun w' hr' => by
            rw [h1]; exact run_loadAt (takeAt_load (hT _ _ ht) hv (hr'.blk _ _ hb))
        · first | exact h.no.elim | exact rawH_sound hs h
      · first | exact h.no.elim | exact rawH_sound hs h
    · rename_i ad t hx ht
      obtain ⟨v, h1, h2⟩ := h.go
      have h3 := (ev_val hs hx).1
      exact pure_op (v := .v v) trivial h2 (by unfold execOp; rw [ho]) fun w' hr' => by
        rw [h3]; exact run_loadAt (load_sound hT (hs.atW hr') ht h1)
    · first | exact h.no.elim | exact rawH_sound hs h
  · exfalso
    rename_i ho
    rw [ho] at hq
    simp [quietK] at hq
  · -- nilCheck
    rename_i x ho
    split at h
    · rename_i ad hx
      have h3 := (ev_val hs hx).1
      exact here_op (v := .v (.pointer (some ad))) trivial h fun w' hr' => by unfold execOp; rw [ho]; simp only; rw [h3]; rfl
    · rename_i l off hx
      obtain ⟨h3, h4⟩ := ev_val hs hx
      exact here_op h4 h fun w' hr' => by unfold execOp; rw [ho]; simp only; rw [h3]; rfl
    · rename_i f xs ys hx
      exact here_op (ev_val hs hx).2 h.rest fun w' hr' => h.go ρ w' a.eval fun x v hv => (ev_val hs hv).1
    · rename_i f xs ys hx
      exact here_op (v := .v (.func f xs ys)) trivial h.rest fun w' hr' => h.go ρ w' a.eval fun x v hv => (ev_val hs hv).1
    · exact h.no.elim
  · -- makeFunc
    rename_i f xs ys ho
    split at h
    · rename_i va vb ha hb
      obtain ⟨a1, a2⟩ := evs_val hs ha
      obtain ⟨b1, b2⟩ := evs_val hs hb
      exact here_op (lab_mkFn a2 b2) h fun w' hr' => by
        unfold execOp; rw [ho]; simp only
        refine run_v ?_
        have h1 : xs.map a.eval = (valL ρ va).toArray := by apply Array.ext'; rw [Array.toList_map, a1]
        have h2 : ys.map a.eval = (valL ρ vb).toArray := by apply Array.ext'; rw [Array.toList_map, b1]
        rw [h1, h2, val_mkFn]
        rfl
    · exact h.no.elim
  · -- binOp
    rename_i op T x y T' ho
    split at h
    · rename_i u v hu hv
      rcases binVC_sound hA hT hs ho hu hv h with ⟨r, h1, h2⟩ | hR
      · exact here_op (v := .v r) trivial h1 fun w' _ => h2 w'
      · exact rawH_sound hs hR
    · first | exact h.no.elim | exact rawH_sound hs h
  · -- unOp
    rename_i op T x ho
    split at h
    · rename_i b hx
      have h3 := (ev_val hs hx).1
      exact pure_op (v := .v (.bool (C.A.not b))) trivial h (by unfold execOp; rw [ho]) fun w' hr' => by rw [h3, hA]; rfl
    · rename_i k n hx
      have h3 := (ev_val hs hx).1
      exact pure_op (v := .v (.int k (C.A.neg k n))) trivial h (by unfold execOp; rw [ho]) fun w' hr' => by rw [h3, hA]; rfl
    · rename_i k n hx
      have h3 := (ev_val hs hx).1
      exact pure_op (v := .v (.int k (C.A.com k n))) trivial h (by unfold execOp; rw [ho]) fun w' hr' => by rw [h3, hA]; rfl
    · first | exact h.no.elim | exact rawH_sound hs h
  · -- convert
    rename_i T D x ho
    split at h
    · rename_i k1 _ _ _ _ k2 _ _ _ _ k3 n hS hD hx
      have h3 := (ev_val hs hx).1
      obtain ⟨d1, hd1, ht1⟩ := und_of (hT _ _ hS)
      obtain ⟨d2, hd2, ht2⟩ := und_of (hT _ _ hD)
      obtain rfl := td_int ht1
      obtain rfl := td_int ht2
      exact pure_op (v := .v (.int k2 (C.A.conv k2 n))) trivial h (by unfold execOp; rw [ho]) fun w' hr' => by
        rw [h3, hA]
        simp only [convert, bind, val]
        rw [run_bind_pure (run_und hd1), run_bind_pure (run_und hd2)]
        rfl
    · -- bytes to a string
      rename_i e _ _ _ _ _ _ _ _ ad n c hS hD hx
      split at h
      · rename_i _ _ _ _ he
        obtain ⟨m, news, bs, hsrc, hnb, hK⟩ := h.go
        have h3 := (ev_val hs hx).1
        obtain ⟨d1, hd1, ht1⟩ := und_of (hT _ _ hS)
        obtain ⟨d2, hd2, ht2⟩ := und_of (hT _ _ hD)
        obtain ⟨d3, hd3, ht3⟩ := und_of (hT _ _ he)
        obtain rfl := td_slc ht1
        obtain rfl := td_str ht2
        obtain rfl := td_int ht3
        refine pure_op (v := .v (.string bs)) trivial hK (by unfold execOp; rw [ho]) fun w' hr' => ?_
        rw [h3]
        exact tostr_sound hr' hd1 hd2 hd3 hsrc hnb (fun y hy => by cases hy)
      · first | exact h.no.elim | exact rawH_sound hs h
    · -- bytes to a string
      rename_i e _ _ _ _ _ _ _ _ l off n c hS hD hx
      split at h
      · rename_i _ _ _ _ he
        obtain ⟨m, news, bs, hsrc, hnb, hK⟩ := h.go
        have h3 := (ev_val hs hx).1
        obtain ⟨d1, hd1, ht1⟩ := und_of (hT _ _ hS)
        obtain ⟨d2, hd2, ht2⟩ := und_of (hT _ _ hD)
        obtain ⟨d3, hd3, ht3⟩ := und_of (hT _ _ he)
        obtain rfl := td_slc ht1
        obtain rfl := td_str ht2
        obtain rfl := td_int ht3
        refine pure_op (v := .v (.string bs)) trivial hK (by unfold execOp; rw [ho]) fun w' hr' => ?_
        rw [h3]
        exact tostr_sound hr' hd1 hd2 hd3 hsrc hnb (fun y hy => by cases hy)
      · first | exact h.no.elim | exact rawH_sound hs h
    · rename_i _ _ _ _ _ _ _ _ y hS hD hx
      have h3 := (ev_val hs hx).1
      obtain ⟨d1, hd1, ht1⟩ := und_of (hT _ _ hS)
      obtain ⟨d2, hd2, ht2⟩ := und_of (hT _ _ hD)
      obtain rfl := td_str ht1
      obtain rfl := td_str ht2
      exact pure_op (v := .v (.string y)) trivial h (by unfold execOp; rw [ho]) fun w' hr' => by
        rw [h3]
        simp only [convert, bind, val]
        rw [run_bind_pure (run_und hd1), run_bind_pure (run_und hd2)]
        rfl
    · first | exact h.no.elim | exact rawH_sound hs h
  · -- slice
    rename_i T x lo hi ho
    cases hbr : (someO lo || someO hi) && isRh C o.dst with
    | true => simp only [hbr, cond_true] at h; exact rawH_sound hs h
    | false =>
    simp only [hbr, cond_false] at h
    have bnd : ∀ {b : Option Operand} {z : Option Int} {n : Nat} {d : Nat}, intO s b = some z → (n : Int) = z.getD d → (b.map a.eval = none ∧ n = d) ∨ ∃ k, b.map a.eval = some (.int k n) := by
      intro b z n d hb hn
      unfold intO at hb
      split at hb
      · simp at hb; subst hb; exact .inl ⟨rfl, by have hn : (n : Int) = d := hn; omega⟩
      · rename_i x'
        split at hb
        · rename_i k m hx'
          simp at hb; subst hb
          have h3 := (ev_val hs hx').1
          have hn : (n : Int) = m := hn
          exact .inr ⟨k, by rw [Option.map_some, h3, hn]; rfl⟩
        · simp at hb
    have bounds : ∀ {isS : Bool} {l h len cap : Nat} {z z' : Option Int}, intO s lo = some z → intO s hi = some z' → (l : Int) = z.getD 0 → (h : Int) = z'.getD len → l ≤ h → h ≤ cap →
        ∀ w', (Instr.sliceBounds isS len cap (lo.map a.eval) (hi.map a.eval) none).run C.P w' = .ok (l, h, cap) w' := by
      intro isS l h len cap z z' h1 h2 h3 h4 h5 h6 w'
      rcases bnd (d := 0) h1 h3 with c1 | ⟨k1, c1⟩ <;> rcases bnd h2 h4 with c2 | ⟨k2, c2⟩
      · exact run_sliceBounds (k1 := .i64) (k2 := .i64) (.inl c1) (.inl c2) h5 h6
      · exact run_sliceBounds (k1 := .i64) (.inl c1) (.inr c2) h5 h6
      · exact run_sliceBounds (k2 := .i64) (.inr c1) (.inl c2) h5 h6
      · exact run_sliceBounds (.inr c1) (.inr c2) h5 h6
    split at h
    · rename_i e _ _ _ _ ad len cap l h' hD hx hl hh
      split at h
      · rename_i t ht
        obtain ⟨l, h2, e1, e2, e3, e4, hK⟩ := h.go
        have h3 := (ev_val hs hx).1
        obtain ⟨d1, hd1, ht1⟩ := und_of (hT _ _ hD)
        obtain rfl := td_slc ht1
        obtain ⟨i2, d2, hi2, hd2, hz2, hs2, htd2, hg2⟩ := tyOf_parts (hT _ _ ht)
        refine pure_op (v := .v (.slice (if cap = l then ad else ad.map (·.add (l * t.size))) (h2 - l) (cap - l))) trivial (hK _ _ _ rfl rfl rfl) (by unfold execOp; rw [ho]) fun w' hr' => ?_
        rw [h3]
        simp only [Instr.sliceAt, Option.map_none, bind, val]
        rw [run_bind_pure (run_und hd1)]
        simp only [Instr.slice, bind]
        rw [run_bind_pure (run_und hd1)]
        simp only
        rw [run_bind_pure (bounds hl hh e1 e2 e3 e4 w')]
        simp only
        rw [run_bind_pure (run_size hi2), hs2]
        rfl
      · first | exact h.no.elim | exact rawH_sound hs h
    · rename_i _ _ _ _ b l h' hD hx hl hh
      obtain ⟨l, h2, e1, e2, e3, e4, hK⟩ := h.go
      have h3 := (ev_val hs hx).1
      obtain ⟨d1, hd1, ht1⟩ := und_of (hT _ _ hD)
      obtain rfl := td_str ht1
      refine pure_op (v := .v (.string (b.extract l h2))) trivial (hK _ rfl) (by unfold execOp; rw [ho]) fun w' hr' => ?_
      rw [h3]
      simp only [Instr.sliceAt, Option.map_none, bind, val]
      rw [run_bind_pure (run_und hd1)]
      simp only [Instr.slice, bind]
      rw [run_bind_pure (run_und hd1)]
      simp only [Option.isSome_none, Bool.false_eq_true, if_false]
      rw [run_bind_pure (bounds hl hh e1 e2 e3 e4 w')]
      rfl
    · rename_i n e _ _ _ _ l off hD hx hl hh
      split at h
      · rename_i t ht
        obtain ⟨h3, h4⟩ := ev_val hs hx
        obtain ⟨d1, hd1, ht1⟩ := und_of (hT _ _ hD)
        obtain rfl := td_arr ht1
        obtain ⟨i2, d2, hi2, hd2, hz2, hs2, htd2, hg2⟩ := tyOf_parts (hT _ _ ht)
        refine pure_op (v := .se l off n n) h4 h (by unfold execOp; rw [ho]) fun w' hr' => ?_
        rw [h3]
        simp only [Instr.sliceAt, Option.map_none, bind, val]
        rw [run_bind_pure (run_und hd1)]
        simp only
        rw [run_bind_pure (run_sure _), run_bind_pure (bounds (l := 0) (h := n) (cap := n) (len := n) hl hh rfl rfl (Nat.zero_le _) (Nat.le_refl _) w')]
        simp only
        rw [run_bind_pure (run_size hi2)]
        simp [run_pure, cell_add]
      · first | exact h.no.elim | exact rawH_sound hs h
    · rename_i n e _ _ _ _ ad hD hx hl hh
      split at h
      · rename_i t ht
        obtain ⟨h3, h4⟩ := ev_val hs hx
        obtain ⟨d1, hd1, ht1⟩ := und_of (hT _ _ hD)
        obtain rfl := td_arr ht1
        obtain ⟨i2, d2, hi2, hd2, hz2, hs2, htd2, hg2⟩ := tyOf_parts (hT _ _ ht)
        refine pure_op (v := .v (.slice (some ad) n n)) trivial h (by unfold execOp; rw [ho]) fun w' hr' => ?_
        rw [h3]
        simp only [Instr.sliceAt, Option.map_none, bind, val]
        rw [run_bind_pure (run_und hd1)]
        simp only
        rw [run_bind_pure (run_sure _), run_bind_pure (bounds (l := 0) (h := n) (cap := n) (len := n) hl hh rfl rfl (Nat.zero_le _) (Nat.le_refl _) w')]
        simp only
        rw [run_bind_pure (run_size hi2)]
        simp [run_pure, Addr.add]
      · first | exact h.no.elim | exact rawH_sound hs h
    · unfold sliceFb at h
      split at h
      · exact h.no.elim
      · exact rawH_sound hs h
  · exact rawH_sound hs h
  · -- index
    rename_i T x i ho
    split at h
    · rename_i _ _ _ _ b k n hD hx hi
      obtain ⟨⟨e1, e2⟩, hK⟩ := h
      have h3 := (ev_val hs hx).1
      have h4 := (ev_val hs hi).1
      obtain ⟨d1, hd1, ht1⟩ := und_of (hT _ _ hD)
      obtain rfl := td_str ht1
      refine pure_op (v := .v (.int .u8 (C.A.sget b n))) trivial hK (by unfold execOp; rw [ho]) fun w' hr' => ?_
      rw [h3, h4]
      simp only [Instr.index, bind, val, asIntOf, pure, Sem.bind]
      rw [run_bind_pure (run_und hd1)]
      simp only [e1, if_true]
      have hlt : n.toNat < b.size := by omega
      have : b[n.toNat]? = some b[n.toNat] := getElem?_pos b n.toNat hlt
      rw [this, hA]
      simp [Sem.run, Ar.real, this]
    · first | exact h.no.elim | exact rawH_sound hs h
  · -- makeInterface
    rename_i T x ho
    split at h
    · rename_i v t hx ht
      cases hb : isIfc t.d with
      | true => simp only [hb, cond_true] at h; first | exact h.no.elim | exact rawH_sound hs h
      | false =>
        simp only [hb, cond_false] at h
        obtain ⟨h3, h4⟩ := ev_val hs hx
        obtain ⟨d1, hd1, ht1⟩ := und_of (hT _ _ ht)
        refine pure_op (mkIf_lab h4) h (by unfold execOp; rw [ho]) ?_
        intro w' hr'
        rw [h3, mkIf_val]
        simp only [Instr.makeInterface, bind]
        rw [run_bind_pure (run_und hd1)]
        cases d1 <;> first | rfl | (rw [← ht1] at hb; simp [tdOf, isIfc] at hb)
    · first | exact h.no.elim | exact rawH_sound hs h
  · -- fieldAddr
    rename_i T x f ho
    split at h
    · rename_i l off fs _ _ _ _ hx ht
      split at h
      · rename_i dd ft hft
        split at h
        · rename_i t2 ht2
          cases hb : Nat.beq t2.size 0 with
          | true => simp only [hb, cond_true] at h; first | exact h.no.elim | exact rawH_sound hs h
          | false =>
            simp only [hb, cond_false] at h
            obtain ⟨h3, h4⟩ := ev_val hs hx
            obtain ⟨d1, hd1, ht1⟩ := und_of (hT _ _ ht)
            obtain ⟨fl, rfl, rfl⟩ := td_stc ht1
            obtain ⟨fl1, hf1, hf2, hf3⟩ := field_of hft
            obtain ⟨i2, d2, hi2, hd2, hz2, hs2, htd2, hg2⟩ := tyOf_parts (hT _ _ ht2)
            refine pure_op (v := .p l (off + dd)) h4 h (by unfold execOp; rw [ho]) ?_
            intro w' hr'
            rw [h3]
            have := run_fieldAt (w := w') (P := C.P) (ad := ⟨ρ l, off, none⟩) hd1 hf1 (by rw [hf3]; exact hi2) (by rw [hs2]; intro h0; rw [h0] at hb; simp at hb)
            rw [hf2, cell_add] at this
            exact this
        · first | exact h.no.elim | exact rawH_sound hs h
      · first | exact h.no.elim | exact rawH_sound hs h
    · rename_i ad fs _ _ _ _ hx ht
      split at h
      · rename_i dd ft hft
        split at h
        · rename_i t2 ht2
          cases hb : Nat.beq t2.size 0 with
          | true => simp only [hb, cond_true] at h; first | exact h.no.elim | exact rawH_sound hs h
          | false =>
            simp only [hb, cond_false] at h
            obtain ⟨h3, h4⟩ := ev_val hs hx
            obtain ⟨d1, hd1, ht1⟩ := und_of (hT _ _ ht)
            obtain ⟨fl, rfl, rfl⟩ := td_stc ht1
            obtain ⟨fl1, hf1, hf2, hf3⟩ := field_of hft
            obtain ⟨i2, d2, hi2, hd2, hz2, hs2, htd2, hg2⟩ := tyOf_parts (hT _ _ ht2)
            refine pure_op (v := .v (.pointer (some (C.A.fld ad dd)))) trivial h (by unfold execOp; rw [ho]) ?_
            intro w' hr'
            rw [h3]
            have := run_fieldAt (w := w') (P := C.P) (ad := ad) hd1 hf1 (by rw [hf3]; exact hi2) (by rw [hs2]; intro h0; rw [h0] at hb; simp at hb)
            rw [hf2] at this
            rw [hA]
            exact this
        · first | exact h.no.elim | exact rawH_sound hs h
      · first | exact h.no.elim | exact rawH_sound hs h
    · first | exact h.no.elim | exact rawH_sound hs h
  · -- field
    rename_i T x f ho
    split at h
    · rename_i v fs _ _ _ _ hx ht
      split at h
      · rename_i dd ft hft
        split at h
        · rename_i t2 ht2
          split at h
          · rename_i cs hcs
            split at h
            · rename_i r hr
              obtain ⟨h3, h4⟩ := ev_val hs hx
              obtain ⟨d1, hd1, ht1⟩ := und_of (hT _ _ ht)
              obtain ⟨fl, rfl, rfl⟩ := td_stc ht1
              obtain ⟨fl1, hf1, hf2, hf3⟩ := field_of hft
              have hag : val ρ v = .agg (valL ρ cs).toArray ∧ labL s.nx cs := by
                unfold aggCells at hcs
                split at hcs
                · simp at hcs; subst hcs; exact ⟨rfl, h4⟩
                · simp at hcs; subst hcs
                  refine ⟨by simp [val, valL_map, Function.comp_def], ?_⟩
                  rw [labL_iff]; intro z hz
                  obtain ⟨q, _, rfl⟩ := List.mem_map.1 hz
                  trivial
                · simp at hcs
              refine pure_op (takeAt_lab hr hag.2) h (by unfold execOp; rw [ho]) ?_
              intro w' hr'
              rw [h3, hag.1]
              simp only [Instr.field, bind]
              rw [run_bind_pure (run_und hd1)]
              simp only [hf1]
              rw [run_bind_pure (show (asAgg (.agg (valL ρ cs).toArray)).run C.P w' = .ok (valL ρ cs).toArray w' from rfl)]
              have := takeAt_part (P := C.P) (w := w') (ρ := ρ) (hT _ _ ht2) hr
              rw [← hf2] at this
              rw [hf3]
              exact this
            · first | exact h.no.elim | exact rawH_sound hs h
          · first | exact h.no.elim | exact rawH_sound hs h
        · first | exact h.no.elim | exact rawH_sound hs h
      · first | exact h.no.elim | exact rawH_sound hs h
    · first | exact h.no.elim | exact rawH_sound hs h
  · -- indexAddr
    rename_i T x i ho
    split at h
    · rename_i ad len _ _ n e _ _ _ _ hx hi ht
      split at h
      · rename_i t2 ht2
        obtain ⟨h1, h2, h2b, h⟩ := h
        obtain ⟨ad, rfl⟩ := Option.isSome_iff_exists.1 h2b
        rw [hA] at h2
        have h2 : n < (len : Int) := h2
        have h3 := (ev_val hs hx).1
        have h4 := (ev_val hs hi).1
        obtain ⟨d1, hd1, ht1⟩ := und_of (hT _ _ ht)
        obtain rfl := td_slc ht1
        obtain ⟨i2, d2, hi2, hd2, hz2, hs2, htd2, hg2⟩ := tyOf_parts (hT _ _ ht2)
        refine pure_op (v := .v (.pointer (some (C.A.elem (some ad) n t2.size)))) trivial h (by unfold execOp; rw [ho]) ?_
        intro w' hr'
        rw [h3, h4]
        simp only [Instr.indexAt, bind, val, asIntOf, pure, Sem.bind]
        rw [run_bind_pure (run_und hd1)]
        simp only [Sem.bind]
        rw [run_bind_pure (run_und hd1)]
        rw [if_pos ⟨h1, h2⟩, run_bind_pure (run_size hi2), hs2, hA]
        simp [Sem.run, Ar.real]
      · first | exact h.no.elim | exact rawH_sound hs h
    · rename_i ad _ n len e _ _ _ _ hx hi ht
      split at h
      · rename_i t2 ht2
        obtain ⟨h1, h2, _, h⟩ := h
        rw [hA] at h2
        have h2 : n < (len : Int) := h2
        have h3 := (ev_val hs hx).1
        have h4 := (ev_val hs hi).1
        obtain ⟨d1, hd1, ht1⟩ := und_of (hT _ _ ht)
        obtain rfl := td_arr ht1
        obtain ⟨i2, d2, hi2, hd2, hz2, hs2, htd2, hg2⟩ := tyOf_parts (hT _ _ ht2)
        refine pure_op (v := .v (.pointer (some (C.A.elem (some ad) n t2.size)))) trivial h (by unfold execOp; rw [ho]) ?_
        intro w' hr'
        rw [h3, h4]
        simp only [Instr.indexAt, bind, val, asIntOf, pure, Sem.bind]
        rw [run_bind_pure (run_und hd1)]
        simp only
        simp only [Instr.sureAddr, pure, Sem.bind]
        rw [run_bind_pure (run_und hd1)]
        rw [if_pos ⟨h1, h2⟩, run_bind_pure (run_size hi2), hs2, hA]
        simp [Sem.run, Ar.real]
      · exact h.no.elim
    · rename_i l off _ n len e _ _ _ _ hx hi ht
      split at h
      · rename_i t2 ht2
        cases hb : Nat.blt n len with
        | false => simp only [hb, cond_false] at h; first | exact h.no.elim | exact rawH_sound hs h
        | true =>
          simp only [hb, cond_true] at h
          have hlt : n < len := Nat.le_of_ble_eq_true hb
          obtain ⟨h3, h5⟩ := ev_val hs hx
          have h4 := (ev_val hs hi).1
          obtain ⟨d1, hd1, ht1⟩ := und_of (hT _ _ ht)
          obtain rfl := td_arr ht1
          obtain ⟨i2, d2, hi2, hd2, hz2, hs2, htd2, hg2⟩ := tyOf_parts (hT _ _ ht2)
          refine pure_op (v := .p l (off + n * t2.size)) h5 h (by unfold execOp; rw [ho]) ?_
          intro w' hr'
          rw [h3, h4]
          simp only [Instr.indexAt, bind, val, asIntOf, pure, Sem.bind]
          rw [run_bind_pure (run_und hd1)]
          simp only
          simp only [Instr.sureAddr, pure, Sem.bind]
          rw [run_bind_pure (run_und hd1)]
          rw [if_pos ⟨Int.natCast_nonneg n, by simpa using hlt⟩, run_bind_pure (run_size hi2), hs2]
          simp [Sem.run, cell_add]
      · first | exact h.no.elim | exact rawH_sound hs h
    · first | exact h.no.elim | exact rawH_sound hs h
  · -- typeAssert
    rename_i x X T ho
    have ta : ∀ {t : Ty} {u : Nat} {v y r : SV} , C.ty T = some t → isIfc t.d = false → s.ev x = some v → val ρ v = .iface u (val ρ y) → lab s.nx y →
        r = (bif Nat.beq u T then .tu [y, .v (.bool true)] else .tu [.v t.zero, .v (.bool false)]) → s.put C o.dst r K → QDoes C s ρ o a K := by
      intro t u v y r ht hi hx hv hl hr hp
      obtain ⟨h3, h4⟩ := ev_val hs hx
      obtain ⟨i2, d2, hi2, hd2, hz2, hs2, htd2, hg2⟩ := tyOf_parts (hT _ _ ht)
      have hne : ∀ m, d2 ≠ .interface m := fun m he => by rw [he] at htd2; rw [← htd2] at hi; simp [tdOf, isIfc] at hi
      have hlr : lab s.nx r := by rw [hr]; cases Nat.beq u T <;> simp [lab, labL, hl]
      refine pure_op hlr hp (by unfold execOp; rw [ho]) ?_
      intro w' hr'
      rw [h3, hv, hr]
      simp only [Instr.typeAssert, bind]
      rw [run_bind_pure (run_und hd2)]
      by_cases he : u = T
      · subst he
        have hb : Nat.beq u u = true := Nat.beq_refl u
        cases d2 <;> first | (exact absurd rfl (hne _)) | (simp [hb, val, valL, run_pure, pure, Sem.run])
      · have hb : Nat.beq u T = false := by
          cases hbb : Nat.beq u T with
          | false => rfl
          | true => exact absurd (Nat.eq_of_beq_eq_true hbb) he
        cases d2 <;> first | (exact absurd rfl (hne _)) | (simp only [he, if_false, if_true, hb, cond_false]; rw [run_bind_pure (run_zero hi2 hz2)]; simp [val, valL, pure, Sem.run])
    split at h
    · rename_i t ht hx
      cases hi : isIfc t.d with
      | true => simp only [hi, cond_true] at h; first | exact h.no.elim | exact rawH_sound hs h
      | false =>
        simp only [hi, cond_false] at h
        obtain ⟨h3, h4⟩ := ev_val hs hx
        obtain ⟨i2, d2, hi2, hd2, hz2, hs2, htd2, hg2⟩ := tyOf_parts (hT _ _ ht)
        have hne : ∀ m, d2 ≠ .interface m := fun m he => by rw [he] at htd2; rw [← htd2] at hi; simp [tdOf, isIfc] at hi
        refine pure_op (v := .tu [.v t.zero, .v (.bool false)]) (by simp [lab, labL]) h (by unfold execOp; rw [ho]) ?_
        intro w' hr'
        rw [h3]
        simp only [Instr.typeAssert, bind, val]
        rw [run_bind_pure (run_und hd2)]
        cases d2 <;> first | (exact absurd rfl (hne _)) | (simp only [if_true]; rw [run_bind_pure (run_zero hi2 hz2)]; simp [valL, val, pure, Sem.run])
    · rename_i t u y ht hx
      cases hi : isIfc t.d with
      | true => simp only [hi, cond_true] at h; first | exact h.no.elim | exact rawH_sound hs h
      | false =>
        simp only [hi, cond_false] at h
        refine ta ht hi hx (y := .v y) rfl trivial rfl ?_
        cases hb : Nat.beq u T <;> simpa [hb] using h
    · rename_i t u y ht hx
      cases hi : isIfc t.d with
      | true => simp only [hi, cond_true] at h; first | exact h.no.elim | exact rawH_sound hs h
      | false =>
        simp only [hi, cond_false] at h
        refine ta ht hi hx (y := y) rfl (ev_val hs hx).2 rfl ?_
        cases hb : Nat.beq u T <;> simpa [hb] using h
    · first | exact h.no.elim | exact rawH_sound hs h
  · exact rawH_sound hs h
  · -- extract
    rename_i x i ho
    split at h
    · rename_i xs hx
      split at h
      · rename_i v hv
        obtain ⟨h3, h4⟩ := ev_val hs hx
        refine pure_op ((labL_iff _ _).1 h4 v (List.mem_of_getElem? hv)) h (by unfold execOp; rw [ho]) ?_
        intro w' hr'
        rw [h3]
        simp [Instr.extract, val, valL_map, hv, run_pure]
      · first | exact h.no.elim | exact rawH_sound hs h
    · rename_i xs hx
      split at h
      · rename_i v hv
        obtain ⟨h3, h4⟩ := ev_val hs hx
        refine pure_op (v := .v v) trivial h (by unfold execOp; rw [ho]) ?_
        intro w' hr'
        rw [h3]
        have : xs[i]? = some v := by rw [← Array.getElem?_toList]; exact hv
        simp [Instr.extract, val, this, run_pure]
      · first | exact h.no.elim | exact rawH_sound hs h
    · first | exact h.no.elim | exact rawH_sound hs h
  · -- call
    rename_i c ho
    split at h
    · rename_i f hc
      rw [ho] at hq
      simp [quietK, hc] at hq
    · rename_i t hc
      rw [ho] at hq
      simp [quietK, hc] at hq
    · rename_i hc
      split at h
      · rename_i x hv
        obtain ⟨h1, h2⟩ := evs_val hs hv
        have hargs : c.args.map a.eval = (valL ρ [x]).toArray := by
          apply Array.ext'
          rw [Array.toList_map, h1]
        have hlen : ∀ {n : Int} {t : Nat} {d : TypeDesc} {w : World}, c.argTypes[0]? = some t → C.P.underlying t = some d →
            (Builtin.len_ c.argTypes o.type #[val ρ x]).run C.P w = .ok (goInt n) w → (execOp a.eval o).run C.P w = .ok (.value (goInt n)) w := by
          intro n t d w ht hd hr
          unfold execOp; rw [ho]; simp only
          simp only [resolve, hc, bind, pure, Sem.bind, invoke, builtin, hargs, valL]
          rw [run_bind_pure hr]
          rfl
        unfold lenVC at h
        split at h
        · rename_i D _ e _ _ _ _ ad n cap hD
          obtain ⟨t, ht, htt⟩ := Option.bind_eq_some_iff.1 hD
          obtain ⟨d1, hd1, ht1⟩ := und_of (hT _ _ htt)
          obtain rfl := td_slc ht1
          refine here_op (v := natI C n) trivial h ?_
          intro w' hr'
          rw [hnat]
          refine hlen ht hd1 ?_
          simp only [Builtin.len_, ht, bind]
          simp only [List.getElem?_toArray, List.getElem?_cons_zero, val]
          rw [run_bind_pure (run_und hd1)]
          rfl
        · rename_i D _ _ _ _ _ str hD
          obtain ⟨t, ht, htt⟩ := Option.bind_eq_some_iff.1 hD
          obtain ⟨d1, hd1, ht1⟩ := und_of (hT _ _ htt)
          obtain rfl := td_str ht1
          refine here_op (v := natI C (C.A.ssize str)) trivial h ?_
          intro w' hr'
          rw [hnat]
          refine hlen ht hd1 ?_
          simp only [Builtin.len_, ht, bind]
          simp only [List.getElem?_toArray, List.getElem?_cons_zero, val]
          rw [run_bind_pure (run_und hd1), hA]
          rfl
        · rename_i D _ e _ _ _ _ l off n cap hD
          obtain ⟨t, ht, htt⟩ := Option.bind_eq_some_iff.1 hD
          obtain ⟨d1, hd1, ht1⟩ := und_of (hT _ _ htt)
          obtain rfl := td_slc ht1
          refine here_op (v := natI C n) trivial h ?_
          intro w' hr'
          rw [hnat]
          refine hlen ht hd1 ?_
          simp only [Builtin.len_, ht, bind]
          simp only [List.getElem?_toArray, List.getElem?_cons_zero, val]
          rw [run_bind_pure (run_und hd1)]
          rfl
        · rename_i D _ n e _ _ _ _ hD
          obtain ⟨t, ht, htt⟩ := Option.bind_eq_some_iff.1 hD
          obtain ⟨d1, hd1, ht1⟩ := und_of (hT _ _ htt)
          obtain rfl := td_arr ht1
          refine here_op (v := natI C n) trivial h ?_
          intro w' hr'
          rw [hnat]
          refine hlen ht hd1 ?_
          simp only [Builtin.len_, ht, bind]
          simp only [List.getElem?_toArray, List.getElem?_cons_zero]
          rw [run_bind_pure (run_und hd1)]
          rfl
        · exact h.elim
      · first | exact h.no.elim | exact rawH_sound hs h
    · rename_i hc
      rw [ho] at hq
      simp [quietK, hc] at hq
    · rename_i hc
      rw [ho] at hq
      simp [quietK, hc] at hq
    · exfalso
      rw [ho] at hq
      simp only [quietK] at hq
      first
        | cases hq
        | (split at hq
           · rename_i hcl
             simp_all
           · cases hq)
  · exfalso
    rename_i ho
    rw [ho] at hq
    simp [quietK] at hq
  · exfalso
    have n1 : ∀ op T x y t, o.op = .binOp op T x y t → False := by assumption
    have n2 : ∀ T x lo hi, o.op = .slice T x lo hi none → False := by assumption
    have n3 : ∀ T x lo hi m, o.op = .slice T x lo hi (some m) → False := by assumption
    have n4 : ∀ x t T, o.op = .typeAssert x t T true → False := by assumption
    have n5 : ∀ x t T, o.op = .typeAssert x t T false → False := by assumption
    unfold quietK at hq
    split at hq
    all_goals first
      | (rename_i heq; exact n1 _ _ _ _ _ heq)
      | (rename_i p1 p2 p3 p4 p5 heq; cases p5; exact n2 _ _ _ _ heq; exact n3 _ _ _ _ _ heq)
      | (rename_i p1 p2 p3 p4 heq; cases p4; exact n5 _ _ _ heq; exact n4 _ _ _ heq)
      | (simp_all; done)

theorem sized_sound {t : Ty} {v : SV} {cs : List SV} (hc : sizedCells t v = some cs) (l2 : lab s.nx v) : (val ρ v).cells = (valL ρ cs).toArray ∧ cs.length = t.size ∧ labL s.nx cs ∧ ∀ z ∈ cs, one z = true := by
  unfold sizedCells at hc
  cases hag : t.agg with
  | true =>
    simp only [hag, if_true] at hc
    split at hc
    · rename_i xs
      cases hq : (Nat.beq xs.length t.size && xs.all one) with
      | false => simp only [hq, cond_false] at hc; cases hc
      | true =>
        simp only [hq, cond_true, Option.some.injEq] at hc
        subst hc
        simp only [Bool.and_eq_true, List.all_eq_true] at hq
        exact ⟨by simp [val, Value.cells], Nat.eq_of_beq_eq_true hq.1, l2, hq.2⟩
    · rename_i vs
      cases hq : (Nat.beq vs.toList.length t.size && (vs.toList.map SV.v).all one) with
      | false => simp only [hq, cond_false] at hc; cases hc
      | true =>
        simp only [hq, cond_true, Option.some.injEq] at hc
        subst hc
        simp only [Bool.and_eq_true, List.all_eq_true] at hq
        refine ⟨by simp [val, Value.cells, valL_map, Function.comp_def], by simpa using Nat.eq_of_beq_eq_true hq.1, ?_, hq.2⟩
        rw [labL_iff]; intro z hz
        obtain ⟨q, _, rfl⟩ := List.mem_map.1 hz
        trivial
    · simp at hc
  | false =>
    simp only [hag, Bool.false_eq_true, if_false] at hc
    cases hq : (one v && Nat.beq t.size 1) with
    | false => simp only [hq, cond_false] at hc; cases hc
    | true =>
      simp only [hq, cond_true, Option.some.injEq] at hc
      subst hc
      simp only [Bool.and_eq_true] at hq
      have := Nat.eq_of_beq_eq_true hq.2
      refine ⟨?_, by simp [this], ⟨l2, trivial⟩, by simpa using hq.1⟩
      have h1 := one_val (ρ := ρ) hq.1
      simp only [valL]
      cases hvv : val ρ v <;> simp_all [Value.cells, oneV]

theorem opq_sound (hA : C.A = .real) (hT : TysOk C.P C.ty) (hs : SRel C E s ρ a w) {o : Oper} {K : St → Prop} (h : opVQ C s o K)
    {next : Act → World → Prop} {Q : Exit → Act → World → Prop} (hk : ∀ s' ρ' a' w', K s' → SRel C E s' ρ' a' w' → Adv s s' ρ ρ' → next a' w') : o.wp C.P a w next Q := by
  by_cases hq : quietK o.op = true
  · exact (op_quiet hA hT hs h hq).wp hs hk
  unfold opVQ at h
  split at h
  · exfalso
    rename_i ho
    rw [ho] at hq
    simp [quietK] at hq
  · exfalso
    rename_i ho
    rw [ho] at hq
    simp [quietK] at hq
  · exfalso
    rename_i ho
    rw [ho] at hq
    simp [quietK] at hq
  · -- alloc
    rename_i T ho
    split at h
    · rename_i t ht
      obtain ⟨hz1, hz2⟩ := zero_cells hT ht ρ
      obtain ⟨i, d, hi, hd, hz, hsz, htd, hg⟩ := tyOf_parts (hT _ _ ht)
      cases hrw : isRw C o.dst with
      | true =>
        simp only [hrw, cond_true] at h
        obtain ⟨rs', h1, h2⟩ := rowa_sound hs h
        refine (does_of (s := s) (s' := { s with rw_ := rs' }) (ρ' := ρ) (v := .v (.pointer (some ⟨w.heap.size, 0, none⟩))) ?_ h2 h1 trivial ⟨fun _ _ => rfl, fun _ _ h => h, Nat.le_refl _⟩).wp hk
        unfold execOp; rw [ho]; simp only
        refine run_v ?_
        simp only [Instr.alloc, bind]
        rw [run_bind_pure (run_zero hi hz)]
        show (Sem.bind (newVar T t.zero) _).run C.P w = _
        unfold newVar
        rw [run_bind_pure run_newRow, hz1]
        simp [val, run_pure]
      | false =>
      simp only [hrw, cond_false] at h
      refine (does_newF hs (hz2 _) (.inl rfl) (fun b => .pointer (some ⟨b, 0, none⟩)) (fun _ => rfl) h fun ρ' hρ => ?_).wp hk
      unfold execOp; rw [ho]; simp only
      refine run_v ?_
      simp only [Instr.alloc, bind]
      rw [run_bind_pure (run_zero hi hz)]
      show (Sem.bind (newVar T t.zero) _).run C.P w = _
      unfold newVar
      rw [run_bind_pure run_newRow, hz1]
      simp [val, hρ, run_pure]
    · first | exact h.no.elim | exact genP_sound hs h hk
  · -- box
    rename_i T x ho
    split at h
    · rename_i v hv
      obtain ⟨h1, h2⟩ := ev_val hs hv
      cases hrw : isRw C o.dst with
      | true =>
        simp only [hrw, cond_true] at h
        obtain ⟨rs', h3, h4⟩ := rowa_sound hs h
        refine (does_of (s := s) (s' := { s with rw_ := rs' }) (ρ' := ρ) (v := .v (.pointer (some ⟨w.heap.size, 0, none⟩))) ?_ h4 h3 trivial ⟨fun _ _ => rfl, fun _ _ h => h, Nat.le_refl _⟩).wp hk
        unfold execOp; rw [ho]; simp only; rw [h1]
        refine run_v ?_
        simp only [Instr.box, bind]
        unfold newVar
        rw [run_bind_pure run_newRow, cells_cellsOf]
        simp [val, run_pure]
      | false =>
      simp only [hrw, cond_false] at h
      refine (does_newF hs (lab_cellsOf h2) (.inl rfl) (fun b => .pointer (some ⟨b, 0, none⟩)) (fun _ => rfl) h fun ρ' hρ => ?_).wp hk
      unfold execOp; rw [ho]; simp only; rw [h1]
      refine run_v ?_
      simp only [Instr.box, bind]
      unfold newVar
      rw [run_bind_pure run_newRow, cells_cellsOf]
      simp [val, hρ, run_pure]
    · first | exact h.no.elim | exact genP_sound hs h hk
  · exfalso
    rename_i ho
    rw [ho] at hq
    simp [quietK] at hq
  · -- buildSlice
    rename_i T len parts ho
    split at h
    · rename_i e _ _ _ _ vs hT1 hv
      split at h
      · rename_i t ht
        split at h
        · rename_i cs hg hf
          simp only [Bool.and_eq_true] at hg
          have hg1 := Nat.eq_of_beq_eq_true hg.1
          have hg2 := Nat.le_of_ble_eq_true hg.2
          obtain ⟨d1, hd1, ht1⟩ := und_of (hT _ _ hT1)
          obtain rfl := td_slc ht1
          obtain ⟨i2, d2, hi2, hd2, hz2, hs2, htd2, hgg2⟩ := tyOf_parts (hT _ _ ht)
          obtain ⟨p1, p2⟩ := parts_val hs parts.toList vs hv
          obtain ⟨z1, z2⟩ := zero_cells hT ht ρ
          have hrow : labL s.nx (zeroRow t len) := by
            rw [labL_iff]; intro z hz
            obtain ⟨j, _, rfl⟩ := List.mem_map.1 hz
            cases hj : (zeroCells t)[j % t.size]? with
            | none => trivial
            | some q => exact (labL_iff _ _).1 (z2 _) q (List.mem_of_getElem? hj)
          refine (does_newF hs (fillS_lab _ _ _ hf hrow p2) (.inr ⟨len, rfl⟩) (fun b => .slice (some ⟨b, 0, none⟩) len len) (fun _ => rfl) h fun ρ' hρ => ?_).wp hk
          unfold execOp; rw [ho]; simp only
          refine run_v ?_
          simp only [Instr.buildSlice, bind]
          rw [run_bind_pure (run_und hd1)]
          simp only
          rw [run_bind_pure (run_size hi2), hs2]
          rw [if_neg (by omega)]
          have hparts : (parts.map fun (i, x) => (i, a.eval x)).toList = ((parts.toList.map (·.1)).zip vs).map (fun x => (x.1, val ρ x.2)) := by
            rw [← p1]; simp
          have hzero : ∀ (zz : Array Value), (len * t.size ≠ 0 → zz = t.zero.cells) → (Array.range (len * t.size)).map (fun j => zz[j % zz.size]!) = (valL ρ (zeroRow t len)).toArray := by
            intro zz hzz
            apply Array.ext'
            rw [Array.toList_map, Array.toList_range, valL_map, zeroRow, List.map_map]
            apply List.map_congr_left
            intro j hj
            have hj := List.mem_range.1 hj
            have hne : len * t.size ≠ 0 := by omega
            have hsz : 0 < t.size := by
              rcases Nat.eq_zero_or_pos t.size with h0 | h0
              · rw [h0] at hne; simp at hne
              · exact h0
            have hlt := Nat.mod_lt j hsz
            rw [hzz hne, z1]
            simp only [valL_map, List.size_toArray, List.length_map, hg1, Function.comp]
            simp [hlt, hg1]
          by_cases h0 : len * t.size = 0
          · simp only [h0, if_true]
            rw [run_bind_pure (run_pure (P := C.P) (w := w) (#[] : Array Value))]
            have hz3 := hzero #[] (fun hne => absurd h0 hne)
            rw [h0] at hz3
            rw [hz3, hparts, fill_sound ρ (place' := fun i => some (i * t.size, t.size)) (fun i z hz => hz) _ _ _ hf]
            simp only
            rw [run_bind_pure run_newRow]
            simp [val, hρ, run_pure]
          · simp only [h0, if_false]
            rw [run_bind_pure (run_zero hi2 hz2), run_bind_pure (run_pure (P := C.P) (w := w) t.zero.cells)]
            rw [hzero t.zero.cells (fun _ => rfl), hparts, fill_sound ρ (place' := fun i => some (i * t.size, t.size)) (fun i z hz => hz) _ _ _ hf]
            simp only
            rw [run_bind_pure run_newRow]
            simp [val, hρ, run_pure]
        · first | exact h.no.elim | exact genP_sound hs h hk
      · first | exact h.no.elim | exact genP_sound hs h hk
    · first | exact h.no.elim | exact genP_sound hs h hk
  · exfalso
    rename_i ho
    rw [ho] at hq
    simp [quietK] at hq
  · -- store
    rename_i T x y ho
    split at h
    · rename_i l off v t hx hv ht
      split at h
      · rename_i b cs hb hc
        cases hbb : Nat.ble (off + cs.length) b.cs.length with
        | false => simp only [hbb, cond_false] at h; first | exact h.no.elim | exact genP_sound hs h hk
        | true =>
          simp only [hbb, cond_true] at h
          have hlen := Nat.le_of_ble_eq_true hbb
          obtain ⟨e1, l1⟩ := ev_val hs hx
          obtain ⟨e2, l2⟩ := ev_val hs hv
          have hcs := sized_sound (ρ := ρ) hc l2
          obtain ⟨hc1, hc2, hc3, hc4⟩ := hcs
          have hbl := hs.hr.blk _ _ hb
          obtain ⟨w', hr, hw, ho1⟩ := run_storeVar (P := C.P) (hT _ _ ht) (off := off) (v := val ρ v) (vs := valL ρ cs) hbl (un0 _) hc1 (by simp [valL_map, hc2]) (by simpa [valL_map] using hlen)
            (by intro z hz; rw [valL_map] at hz; obtain ⟨q, hq, rfl⟩ := List.mem_map.1 hz; exact one_val (hc4 q hq))
          have hss := store_sound hs (b' := { b with cs := putAt b.cs off cs }) hb rfl (labL_putAt _ _ _ (hs.hr.wf _ _ hb).2 hc3) (w' := w') (by rw [hw]; simp [valL_putAt]) ho1
          obtain ⟨s', k1, k2, k3⟩ := put_sound' (v := .v undef) h hss trivial
          unfold Oper.wp execOp
          rw [ho]
          simp only
          rw [e1, e2]
          have : (Instr.storeAt T (val ρ (.p l off)) (val ρ v)).run C.P w = .ok () w' := by
            simp only [Instr.storeAt, bind, val]
            rw [run_bind_pure (run_sure _)]
            exact hr
          rw [run_u this]
          exact hk _ _ _ _ k1 k2 (Adv.trans (s' := { s with hp := setHp s.hp l { b with cs := putAt b.cs off cs } }) ⟨fun _ _ => rfl, fun _ _ h => h, Nat.le_refl _⟩ k3)
      · first | exact h.no.elim | exact genP_sound hs h hk
    · rename_i ad v t hx hv ht
      split at h
      · rename_i cs hc
        split at h
        · rename_i vs hvs
          obtain ⟨e1, l1⟩ := ev_val hs hx
          obtain ⟨e2, l2⟩ := ev_val hs hv
          obtain ⟨hc1, hc2, hc3, hc4⟩ := sized_sound (ρ := ρ) hc l2
          have hval := rawL_val (ρ := ρ) hvs
          rw [hval] at hc1
          have hvl : vs.length = t.size := by rw [← hval, valL_map, List.length_map, hc2]
          obtain ⟨rs', w', hrun, hss, hK⟩ := rawstore_sound hT hs ht hc1 hvl (fun x hx => by
            rw [← hval, valL_map] at hx
            obtain ⟨q, hq, rfl⟩ := List.mem_map.1 hx
            exact one_val (hc4 q hq)) h
          obtain ⟨s', k1, k2, k3⟩ := put_sound' (v := .v undef) hK hss trivial
          unfold Oper.wp execOp
          rw [ho]
          simp only
          rw [e1, e2]
          rw [run_u (show (Instr.storeAt T (val ρ (.v (.pointer (some ad)))) (val ρ v)).run C.P w = .ok () w' from hrun)]
          exact hk _ _ _ _ k1 k2 (Adv.trans (s' := { s with rw_ := rs' }) ⟨fun _ _ => rfl, fun _ _ h => h, Nat.le_refl _⟩ k3)
        · first | exact h.no.elim | exact genP_sound hs h hk
      · first | exact h.no.elim | exact genP_sound hs h hk
    · first | exact h.no.elim | exact genP_sound hs h hk
  · exfalso
    rename_i ho
    rw [ho] at hq
    simp [quietK] at hq
  · exfalso
    rename_i ho
    rw [ho] at hq
    simp [quietK] at hq
  · exfalso
    rename_i ho
    rw [ho] at hq
    simp [quietK] at hq
  · exfalso
    rename_i ho
    rw [ho] at hq
    simp [quietK] at hq
  · exfalso
    rename_i ho
    rw [ho] at hq
    simp [quietK] at hq
  · exfalso
    rename_i ho
    rw [ho] at hq
    simp [quietK] at hq
  · exfalso
    rename_i ho
    rw [ho] at hq
    simp [quietK] at hq
  · exfalso
    rename_i ho
    rw [ho] at hq
    simp [quietK] at hq
  · exfalso
    rename_i ho
    rw [ho] at hq
    simp [quietK] at hq
  · exfalso
    rename_i ho
    rw [ho] at hq
    simp [quietK] at hq
  · exfalso
    rename_i ho
    rw [ho] at hq
    simp [quietK] at hq
  · exfalso
    rename_i ho
    rw [ho] at hq
    simp [quietK] at hq
  · exfalso
    rename_i ho
    rw [ho] at hq
    simp [quietK] at hq
  · exfalso
    rename_i ho
    rw [ho] at hq
    simp [quietK] at hq
  · exfalso
    rename_i ho
    rw [ho] at hq
    simp [quietK] at hq
  · -- call
    rename_i c ho
    split at h
    · rename_i f hc
      split at h
      · rename_i vs hv
        cases hext : C.fz.any (Nat.beq (1000 + f)) with
        | true => simp only [hext, cond_true] at h; exact genP_sound hs h hk
        | false =>
        simp only [hext, cond_false] at h
        obtain ⟨h1, h2⟩ := evs_val hs hv
        obtain ⟨⟨g, hg1, hg2, hg3⟩, hgo⟩ := h
        have hcall := hgo ρ w hs.hr
        have hrun : (execOp a.eval o).run C.P w = .ok (.enter f (valL ρ vs).toArray) w := by
          unfold execOp; rw [ho]; simp only
          have hargs : c.args.map a.eval = (valL ρ vs).toArray := by
            apply Array.ext'
            rw [Array.toList_map, h1]
          simp only [resolve, hc, Act.eval, Deferred.ofValue, bind, pure, Sem.bind, invoke, callFunc, program, Sem.run]
          simp only [hg1, hargs]
          have hn : (g.name == "runtime.NumGoroutine") = false := by simpa using hg2
          have hb : g.body.isNone = false := by cases hgb : g.body <;> simp_all
          simp [hn, hb, Sem.run]
        unfold Oper.wp
        rw [hrun]
        simp only [Oper.upon]
        refine hcall.mono fun e w' hpost => ?_
        obtain ⟨R', hp', nx', rs', ρ', r, q1, q2, q3, q4, q5, q6, q7, qr, q8, q9, q10⟩ := hpost
        subst q8
        have hss : SRel C E { s with R := R', hp := hp', nx := nx', rw_ := rs' } ρ' a w' := by
          have hsz := hs.kp.size
          refine ⟨?_, hs.sz, hs.df, q6, ?_, Nat.le_trans hs.nx q2, ?_, ?_, fun b ob hb => q4 _ _ (hs.rle _ _ hb), ?_, ?_⟩
          · intro t x hf
            obtain ⟨f1, f2⟩ := hs.fr t x hf
            exact ⟨by rw [f1, val_agree q1 x f2], lab_mono q2 x f2⟩
          · intro l hl
            have := hs.nx
            rw [q1 l (by omega)]
            exact hs.ag l hl
          · refine hs.kp.trans q7 fun x hx he => ?_
            rcases own_up hs he with h' | h'
            · omega
            · exact h'
          · intro l hl hl'
            rcases Nat.lt_or_ge l s.nx with h' | h'
            · rw [q1 l h']; exact hs.nw l hl h'
            · have := q3 l h' hl'
              omega
          · intro b ob hb
            rcases q5 b ob hb with h' | h' | h'
            · exact hs.rfr b ob h'
            · exact .inr (.inl (by omega))
            · exact .inr (own_up hs h')
          · intro q hq g hg
            rcases qr q hq g hg with h' | h'
            · exact .inl (by omega)
            · exact own_up hs h'
        obtain ⟨s', k1, k2, k3⟩ := put_sound' q10 hss q9
        exact hk _ _ _ _ k1 k2 (Adv.trans (s' := { s with R := R', hp := hp', nx := nx', rw_ := rs' }) ⟨q1, q4, q2⟩ k3)
      · first | exact h.no.elim | exact genP_sound hs h hk
    · rename_i t hc
      split at h
      · rename_i f xs ys vs hf hv
        obtain ⟨h1, h2⟩ := evs_val hs hv
        obtain ⟨h3, h4⟩ := hs.fr _ _ hf
        refine callp_sound hs h (fun g hg1 hg2 hg3 => ?_) hk
        have := enter_dyn (P := C.P) (w := w) (ev := a.eval) (xs := xs.toList) (ys := ys.toList) (vs := valL ρ vs) ho hc (by simp only [Act.eval]; rw [Array.getD_eq_getD_getElem?, h3]; simp [val]) (by apply Array.ext'; rw [Array.toList_map, h1]) hg1 hg2 hg3
        rw [this]
        simp [valL_map, val, Function.comp_def]
      · rename_i f xs ys vs hf hv
        obtain ⟨h1, h2⟩ := evs_val hs hv
        obtain ⟨h3, h4⟩ := hs.fr _ _ hf
        refine callp_sound hs h (fun g hg1 hg2 hg3 => ?_) hk
        have := enter_dyn (P := C.P) (w := w) (ev := a.eval) (xs := valL ρ xs) (ys := valL ρ ys) (vs := valL ρ vs) ho hc (by simp only [Act.eval]; rw [Array.getD_eq_getD_getElem?, h3]; simp [val]) (by apply Array.ext'; rw [Array.toList_map, h1]) hg1 hg2 hg3
        rw [this]
        simp [valL_map, val, Function.comp_def]
      · exact genP_sound hs h hk
    · rename_i hc
      rw [ho] at hq
      simp [quietK, hc] at hq
    · -- append
      rename_i hc
      have fin : ∀ {x y : SV} {e t1 t2 : Nat} {t : Ty}, evs s c.args.toList = some [x, y] → c.argTypes[0]? = some t1 → c.argTypes[1]? = some t2 → C.P.underlying t1 = some (.slice e) →
          ((∃ e', C.P.underlying t2 = some (.slice e')) ∨ C.P.underlying t2 = some .string) → C.ty e = some t → (zeroCells t).length = t.size → t.size ≠ 4096 →
          AppP s e t.size t.bytes x y (fun hp' rs' r => ({ s with hp := hp', rw_ := rs' } : St).put C o.dst r K) → o.wp C.P a w next Q := by
        intro x y e t1 t2 t hv ht1 ht2 hd1 hd2 he hz hz4 h
        obtain ⟨h1, h2⟩ := evs_val hs hv
        obtain ⟨hp', rs', v, w', hrun, hss, hK⟩ := append_sound hT hs he hz hd1 hd2 h hz4
        obtain ⟨s', k1, k2, k3⟩ := put_sound' hK hss trivial
        have hargs : c.args.map a.eval = #[val ρ x, val ρ y] := by
          apply Array.ext'
          rw [Array.toList_map, h1]
          rfl
        have hat : ∀ ty xs, Builtin.append_ c.argTypes ty xs = Builtin.append_ #[t1, t2] ty xs := by
          intro ty xs
          simp only [Builtin.append_, ht1, ht2]
          rfl
        have : (execOp a.eval o).run C.P w = .ok (.value v) w' := by
          unfold execOp; rw [ho]; simp only
          simp only [resolve, hc, bind, pure, Sem.bind, invoke, builtin, hargs, hat]
          rw [run_bind_pure (hrun o.type)]
          rfl
        unfold Oper.wp
        rw [this]
        exact hk _ _ _ _ k1 k2 (Adv.trans (s' := { s with hp := hp', rw_ := rs' }) ⟨fun _ _ => rfl, fun _ _ h => h, Nat.le_refl _⟩ k3)
      split at h
      · rename_i x y e _ _ _ _ t2 hv hD1 hD2
        obtain ⟨T1, ht1, htt1⟩ := Option.bind_eq_some_iff.1 hD1
        obtain ⟨T2, ht2, htt2⟩ := Option.bind_eq_some_iff.1 hD2
        obtain ⟨d1, hd1, hk1⟩ := und_of (hT _ _ htt1)
        obtain ⟨d2, hd2, hk2⟩ := und_of (hT _ _ htt2)
        obtain rfl := td_slc hk1
        split at h
        · rename_i t _ he hdd
          cases hb : apOk C o.dst t with
          | false => simp only [hb, cond_false] at h; first | exact h.no.elim | exact genP_sound hs h hk
          | true =>
            simp only [hb, cond_true] at h
            rw [hdd] at hk2
            obtain rfl := td_slc hk2
            exact fin hv ht1 ht2 hd1 (.inl ⟨_, hd2⟩) he (apOk_ok hb).1 (apOk_ok hb).2 h
        · rename_i t he hdd
          cases hb : apOk C o.dst t with
          | false => simp only [hb, cond_false] at h; first | exact h.no.elim | exact genP_sound hs h hk
          | true =>
            simp only [hb, cond_true] at h
            rw [hdd] at hk2
            obtain rfl := td_str hk2
            exact fin hv ht1 ht2 hd1 (.inr hd2) he (apOk_ok hb).1 (apOk_ok hb).2 h
        · first | exact h.no.elim | exact genP_sound hs h hk
      · first | exact h.no.elim | exact genP_sound hs h hk
    · -- copy
      rename_i hc
      split at h
      · rename_i ad len cap y e _ _ _ _ hv hD1
        split at h
        · rename_i t he
          obtain ⟨T1, ht1, htt1⟩ := Option.bind_eq_some_iff.1 hD1
          obtain ⟨d1, hd1, hk1⟩ := und_of (hT _ _ htt1)
          obtain rfl := td_slc hk1
          obtain ⟨h1, h2⟩ := evs_val hs hv
          obtain ⟨rs', n, w', hrun, hss, hK⟩ := copy_sound (t2 := 0) (cap := cap) hT hs he hd1 h
          obtain ⟨s', k1, k2, k3⟩ := put_sound' hK hss trivial
          have hargs : c.args.map a.eval = #[.slice ad len cap, val ρ y] := by
            apply Array.ext'
            rw [Array.toList_map, h1]
            rfl
          have hat : ∀ ty xs, Builtin.copy_ c.argTypes ty xs = Builtin.copy_ #[T1, 0] ty xs := by
            intro ty xs
            simp only [Builtin.copy_, ht1]
            rfl
          have : (execOp a.eval o).run C.P w = .ok (.value (val ρ (natI C n))) w' := by
            unfold execOp; rw [ho]; simp only
            simp only [resolve, hc, bind, pure, Sem.bind, invoke, builtin, hargs, hat]
            rw [run_bind_pure (hrun o.type)]
            simp [natI, val, hA, Ar.real, goInt, Sem.run]
          unfold Oper.wp
          rw [this]
          exact hk _ _ _ _ k1 k2 (Adv.trans (s' := { s with rw_ := rs' }) ⟨fun _ _ => rfl, fun _ _ h => h, Nat.le_refl _⟩ k3)
        · first | exact h.no.elim | exact genP_sound hs h hk
      · first | exact h.no.elim | exact genP_sound hs h hk
    · first | exact h.no.elim | exact genP_sound hs h hk
  · -- makeSlice
    rename_i T x y ho
    split at h
    · rename_i e _ _ _ _ kn n kc c hD hx hy
      split at h
      · rename_i t ht
        split at h
        · rename_i z hz
          cases hb : (Nat.beq z.length t.size && !Nat.beq t.size 4096) with
          | false => simp only [hb, cond_false] at h; first | exact h.no.elim | exact genP_sound hs h hk
          | true =>
            simp only [hb, cond_true] at h
            obtain ⟨d1, hd1, ht1⟩ := und_of (hT _ _ hD)
            obtain rfl := td_slc ht1
            obtain ⟨rs', v, w', hrun, hss, hK⟩ := make_sound hT hs ht hz (mkOk_ok hb).1 hd1 h (mkOk_ok hb).2
            obtain ⟨s', k1, k2, k3⟩ := put_sound' hK hss trivial
            have e1 := (ev_val hs hx).1
            have e2 := (ev_val hs hy).1
            unfold Oper.wp execOp
            rw [ho]
            simp only
            rw [e1, e2]
            rw [show (do pure (Next.value (← Instr.makeSlice T (val ρ (.v (.int kn n))) (val ρ (.v (.int kc c))))) : Sem Next).run C.P w = .ok (.value v) w' from run_v hrun]
            exact hk _ _ _ _ k1 k2 (Adv.trans (s' := { s with rw_ := rs' }) ⟨fun _ _ => rfl, fun _ _ h => h, Nat.le_refl _⟩ k3)
        · first | exact h.no.elim | exact genP_sound hs h hk
      · first | exact h.no.elim | exact genP_sound hs h hk
    · first | exact h.no.elim | exact genP_sound hs h hk
  · first | exact h.no.elim | exact genP_sound hs h hk

theorem op_sound (hA : C.A = .real) (hT : TysOk C.P C.ty) (hs : SRel C E s ρ a w) {o : Oper} {K : St → Prop} (h : opVC C s o K)
    {next : Act → World → Prop} {Q : Exit → Act → World → Prop} (hk : ∀ s' ρ' a' w', K s' → SRel C E s' ρ' a' w' → Adv s s' ρ ρ' → next a' w') : o.wp C.P a w next Q := by
  unfold opVC at h
  split at h
  · rename_i S D x ho
    cases hb : toBytes C S D with
    | true => simp only [hb, cond_true] at h; exact genP_sound hs h hk
    | false => simp only [hb, cond_false] at h; exact opq_sound hA hT hs h hk
  · cases hb : C.fz.any (Nat.beq 499) with
    | true => simp only [hb, cond_true] at h
    | false =>
    simp only [hb, cond_false] at h
    obtain ⟨d, hd, hh⟩ := h.go ρ w hs.hr a.eval fun x v hv => (ev_val hs hv).1
    unfold Oper.wp
    rw [hd]
    simp only [Oper.upon]
    have hs' : SRel C E s ρ { a with defers := d :: a.defers } w :=
      ⟨hs.fr, hs.sz, ⟨fun e he => (by rcases List.mem_cons.1 he with rfl | he; exact hh; exact hs.df.1 e he), fun ht => (by rw [hb] at ht; cases ht)⟩, hs.hr, hs.ag, hs.nx, hs.kp, hs.nw, hs.rle, hs.rfr, hs.rn⟩
    obtain ⟨s', k1, k2, k3⟩ := put_sound' (v := .v undef) h.rest hs' trivial
    exact hk _ _ _ _ k1 k2 k3
  · exact opq_sound hA hT hs h hk
end
end Go.Se
