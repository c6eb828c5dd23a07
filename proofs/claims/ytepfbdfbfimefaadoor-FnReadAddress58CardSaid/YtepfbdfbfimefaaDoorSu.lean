/- The evaluator: laws for operations that it does not know: the model is asked. -/
import Derived.Test.YtepfbdfbfimefaaDoorSv
import Derived.Lib.ConvBytes
import Derived.Lib.Builder
import Derived.Lib.UnsafeStr
import Derived.Laws.Externs
import Derived.Laws.LoneSync
set_option linter.unusedSimpArgs false
set_option linter.unusedVariables false
namespace Go.Se
open Go

abbrev EvOk (s : St) (ρ : Nat → Nat) (ev : Operand → Value) : Prop := ∀ x v, s.ev x = some v → ev x = val ρ v

theorem evs_ev {s : St} {ρ : Nat → Nat} {ev : Operand → Value} (h : EvOk s ρ ev) : ∀ {xs : List Operand} {vs : List SV}, evs s xs = some vs → xs.map ev = valL ρ vs
  | [], vs, hv => by simp [evs] at hv; subst hv; rfl
  | x :: xs, vs, hv => by
    simp only [evs] at hv
    split at hv
    · rename_i a l ha hl
      simp at hv
      subst hv
      rw [List.map_cons, valL, h x a ha, evs_ev h hl]
    · cases hv

theorem evs_arr {s : St} {ρ : Nat → Nat} {ev : Operand → Value} (h : EvOk s ρ ev) {xs : Array Operand} {vs : List SV} (hv : evs s xs.toList = some vs) : xs.map ev = (valL ρ vs).toArray := by
  apply Array.ext'
  rw [Array.toList_map, evs_ev h hv]

/-- What stands behind an operation that turned nothing. -/
theorem post_same {R : RO} {hp : List (Nat × HB)} {nx : Nat} {rs : List Row} {ρ : Nat → Nat} {w : World} {r : SV} {K : RO → List (Nat × HB) → Nat → List Row → SV → Prop} (hr : HRel R hp nx rs ρ w) (hl : lab nx r) (hk : K R hp nx rs r) :
    ∃ R' hp' nx' rs' ρ' r', (∀ l, l < nx → ρ' l = ρ l) ∧ nx ≤ nx' ∧ (∀ l, nx ≤ l → l < nx' → w.heap.size ≤ ρ' l) ∧ R.le R' ∧ RO.fresh w (Own ρ nx rs) R R' ∧ HRel R' hp' nx' rs' ρ' w ∧ Keep (Own ρ nx rs) w w ∧
      (∀ q ∈ rs', ∀ g, q.blk = some g → w.heap.size ≤ g ∨ Own ρ nx rs g) ∧ val ρ r = val ρ' r' ∧ lab nx' r' ∧ K R' hp' nx' rs' r' :=
  ⟨R, hp, nx, rs, ρ, r, fun _ _ => rfl, Nat.le_refl _, fun l a b => absurd a (by omega), fun _ _ h => h, fun b o hb => .inl hb, hr, .refl _ _, fun q hq g hg => .inr (.inr ⟨q, hq, hg⟩), rfl, hl, hk⟩

/-- An operation that turns nothing. -/
theorem gen_pure {C : Cx} {s : St} {o : Oper} {K : RO → List (Nat × HB) → Nat → List Row → SV → Prop} (r : SV) (hl : lab s.nx r)
    (h : ∀ (ρ : Nat → Nat) (w : World), HRel s.R s.hp s.nx s.rw_ ρ w → ∀ ev : Operand → Value, EvOk s ρ ev → (execOp ev o).run C.P w = .ok (.value (val ρ r)) w) (hk : K s.R s.hp s.nx s.rw_ r) : GenP C s o K := by
  refine ⟨fun ρ w hr ev he => ?_⟩
  rw [h ρ w hr ev he]
  exact post_same hr hl hk

/-- A method's function, at a dynamic type: the receiver is handed on as it is. -/
def Meth (P : Program) (T : Nat) (m : String) (f : Nat) : Prop := ∀ v w, (method (P.types.size + Made.depth) T v m).run P w = .ok (f, v) w

theorem depth_pos (P : Program) : ∃ n, P.types.size + Made.depth = n + 1 := ⟨P.types.size + Made.depth - 1, by
  have : 0 < Made.depth := by decide
  omega⟩

/-- A method with a pointer as its receiver, in the program's table. -/
def methRow (P : Program) (T : Nat) (m : String) : Option (Bool × Option (FuncId × Bool)) := (P.info? T).bind fun i => (i.methods.find? (·.name == m)).map fun r => (r.path.isEmpty, r.func)

theorem methRow_of {P : Program} {T f : Nat} {m : String} (h : methRow P T m = some (true, some (f, true))) : ∃ i r, P.info? T = some i ∧ i.methods.find? (·.name == m) = some r ∧ r.path = #[] ∧ r.func = some (f, true) := by
  unfold methRow at h
  obtain ⟨i, hi, h⟩ := Option.bind_eq_some_iff.1 h
  obtain ⟨r, hr, h⟩ := Option.map_eq_some_iff.1 h
  simp only [Prod.mk.injEq] at h
  exact ⟨i, r, hi, hr, by simpa using h.1, h.2⟩

theorem meth_ptr {P : Program} {T e f : Nat} {m : String} (h : methRow P T m = some (true, some (f, true))) (hT : P.underlying T = some (.pointer e)) : Meth P T m f := fun v w => by
  obtain ⟨i, row, hi, hm, hp, hf⟩ := methRow_of h
  obtain ⟨n, hn⟩ := depth_pos P
  rw [hn, method]
  simp only [bind]
  rw [run_bind_pure (run_info hi)]
  simp only [hm, hp]
  simp only [follow, hf, pure, Sem.bind, receiverAt, bind]
  have h1 : ∀ (g : TypeDesc → Sem Value), (g (.pointer e) = Sem.pure v) → Sem.run P ((underlying T).bind g) w = .ok v w := fun g hg => by
    rw [run_bind_pure (run_und hT), hg]
    rfl
  rw [run_bind_pure (h1 _ rfl)]
  rfl

theorem callFunc_enter {P : Program} {f : Nat} (hf : ∃ g, P.funcs[f]? = some g ∧ g.name ≠ "runtime.NumGoroutine" ∧ g.body.isSome = true) (args : Array Value) (w : World) : (callFunc f args).run P w = .ok (.enter f args) w := by
  obtain ⟨g, hg1, hg2, hg3⟩ := hf
  have hn : (g.name == "runtime.NumGoroutine") = false := by simpa using hg2
  have hb : g.body.isNone = false := by cases hgb : g.body <;> simp_all
  simp only [callFunc, program, bind, pure, Sem.bind, Sem.run, hg1, hn, hb, Bool.false_eq_true, if_false]

/-- A call through an interface. -/
theorem gen_invoke {C : Cx} {s : St} {o : Oper} {c : Call} {r : Operand} {m : String} {T f : Nat} {x y : SV} {vs : List SV} {K : RO → List (Nat × HB) → Nat → List Row → SV → Prop} (ho : o.op = .call c) (hc : c.callee = .invoke r m) (hr : s.ev r = some y) (hy : y = mkIf T x)
    (ha : evs s c.args.toList = some vs) (hm : Meth C.P T m f) (h : CallP C.P f (x :: vs) s.R s.hp s.nx s.rw_ K) : GenP C s o K := by
  refine ⟨fun ρ w hrel ev he => ?_⟩
  have e1 : ev r = .iface T (val ρ x) := by rw [he r y hr, hy, mkIf_val]
  have e2 := evs_arr he ha
  have hrun : (execOp ev o).run C.P w = .ok (.enter f (valL ρ (x :: vs)).toArray) w := by
    unfold execOp
    rw [ho]
    simp only [resolve, hc, bind, pure, Sem.bind, invoke, e1, e2]
    have h0 : (#[Value.iface T (val ρ x)] ++ (valL ρ vs).toArray)[0]? = some (.iface T (val ρ x)) := by simp
    have h1 : (#[Value.iface T (val ρ x)] ++ (valL ρ vs).toArray).extract 1 (#[Value.iface T (val ρ x)] ++ (valL ρ vs).toArray).size = (valL ρ vs).toArray := by
      apply Array.ext'
      simp
    simp only [h0, h1, callMethod, bind]
    rw [run_bind_pure (show program.run C.P w = .ok C.P w from rfl), run_bind_pure (hm (val ρ x) w)]
    simp only [callFunc_enter h.fn]
    rw [valL]
    congr 2
    apply Array.ext'
    simp
  rw [hrun]
  simp only [Ups]
  refine (h.go ρ w hrel).mono fun e w' => ?_
  rintro ⟨R', hp', nx', rs', ρ', r, q1, q2, q3, q4, q5, q6, q7, qr, rfl, q9, q10⟩
  exact ⟨_, rfl, R', hp', nx', rs', ρ', r, q1, q2, q3, q4, q5, q6, q7, qr, rfl, q9, q10⟩

/-- A static call of a function that has no body. -/
theorem gen_extern {C : Cx} {s : St} {o : Oper} {c : Call} {f : Nat} {g : Func} {e : Array Value → Sem Value} {vs : List SV} {K : RO → List (Nat × HB) → Nat → List Row → SV → Prop} (r : SV) (ho : o.op = .call c) (hc : c.callee = .value (.func f)) (ha : evs s c.args.toList = some vs)
    (hf : C.P.funcs[f]? = some g) (hn : (g.name == "runtime.NumGoroutine") = false) (hb : g.body.isNone = true) (hx : Extern.findNext g = none) (he : Extern.find g = some e)
    (hr : ∀ (ρ : Nat → Nat) (w : World), HRel s.R s.hp s.nx s.rw_ ρ w → (e (valL ρ vs).toArray).run C.P w = .ok (val ρ r) w) (hl : lab s.nx r) (hk : K s.R s.hp s.nx s.rw_ r) : GenP C s o K := by
  refine gen_pure r hl (fun ρ w hrel ev hev => ?_) hk
  have e2 := evs_arr hev ha
  unfold execOp
  rw [ho]
  simp only [resolve, hc, bind, pure, Sem.bind, invoke]
  have e1 : ev (.func f) = .func (.func f) #[] #[] := hev (.func f) (.v (.func (.func f) #[] #[])) rfl
  simp only [e1, Deferred.ofValue, pure, Sem.bind, e2]
  simp only [Sem.bind, invoke, Array.empty_append, Array.append_empty]
  rw [run_callFunc_extern hf hn hb hx he, hr ρ w hrel]
  rfl

/-- A pointer of the call's own against itself. -/
theorem raw_ptr_neq {C : Cx} {s : St} {o : Oper} {T e T2 l n : Nat} {x y : Operand} {j : TypeInfo} {K : SV → Prop} (ho : o.op = .binOp .neq T x y T2) (hx : s.ev x = some (.p l n)) (hy : s.ev y = some (.p l n))
    (hT : C.P.underlying T = some (.pointer e)) (he : C.P.info? e = some j) (hk : K (.v (.bool false))) : RawH C s o K := by
  refine ⟨.v (.bool false), trivial, hk, fun ρ w hr ev hev => ?_⟩
  unfold execOp
  rw [ho]
  simp only [hev x _ hx, hev y _ hy, val]
  refine run_v ?_
  have hg : ∀ w, (eqGuard .neq T x y (Value.pointer (some ⟨ρ l, n, none⟩)) (Value.pointer (some ⟨ρ l, n, none⟩))).run C.P w = .ok () w := run_guard_other (by simp) (by simp)
  exact run_bin hg (fun w => Lib.run_neq_ptr_same w _ hT he) w

/-- A pointer as an unsafe one. -/
theorem raw_to_unsafe {C : Cx} {s : St} {o : Oper} {S D t l n : Nat} {x : Operand} {b : HB} {K : SV → Prop} (ho : o.op = .convert S D x) (hx : s.ev x = some (.p l n)) (hb : find s.hp l = some b) (hn : n < b.cs.length)
    (hS : C.P.underlying S = some (.pointer t)) (hD : C.P.underlying D = some .unsafePointer) (ht : (C.P.info? t).map (fun i => decide (i.size = 0)) = some false) (hl : l < s.nx) (hk : K (.p l n)) : RawH C s o K := by
  obtain ⟨j, hj, hz⟩ := Option.map_eq_some_iff.1 ht
  refine ⟨.p l n, hl, hk, fun ρ w hr ev hev => ?_⟩
  unfold execOp
  rw [ho]
  simp only [hev x _ hx, val]
  have hbl := hr.blk l b hb
  exact run_v (Lib.run_to_unsafe w ⟨ρ l, n, none⟩ hS hD hj (by simpa using hz) (e := b.ty) (cells := b.cs.length) (by simp [World.shape?, hbl, valL_map]) hn)

/-- .. and back. -/
theorem raw_from_unsafe {C : Cx} {s : St} {o : Oper} {S D u l n : Nat} {x : Operand} {j : TypeInfo} {b : HB} {K : SV → Prop} (ho : o.op = .convert S D x) (hx : s.ev x = some (.p l n)) (hb : find s.hp l = some b)
    (hS : C.P.underlying S = some .unsafePointer) (hD : C.P.underlying D = some (.pointer u)) (hu : C.P.info? u = some j) (hlies : liesAt C.P C.P.depth b.ty (b.cs.length / C.P.cellsOf b.ty) n u 1 = true) (hl : l < s.nx) (hk : K (.p l n)) : RawH C s o K := by
  refine ⟨.p l n, hl, hk, fun ρ w hr ev hev => ?_⟩
  unfold execOp
  rw [ho]
  simp only [hev x _ hx, val]
  have hbl := hr.blk l b hb
  exact run_v (Lib.run_from_unsafe w ⟨ρ l, n, none⟩ hS hD hu (e := b.ty) (cells := b.cs.length) (by simp [World.shape?, hbl, valL_map]) hlies)

/-- A static call, of which the model is asked. -/
theorem run_callf {P : Program} {s : St} {ρ : Nat → Nat} {ev : Operand → Value} (hev : EvOk s ρ ev) {o : Oper} {c : Call} {f : Nat} {vs : List SV} (ho : o.op = .call c) (hc : c.callee = .value (.func f)) (ha : evs s c.args.toList = some vs) (w : World) :
    (execOp ev o).run P w = (callFunc f (valL ρ vs).toArray).run P w := by
  have e2 := evs_arr hev ha
  unfold execOp
  rw [ho]
  simp only [resolve, hc, bind, pure, Sem.bind, invoke]
  have e1 : ev (.func f) = .func (.func f) #[] #[] := hev (.func f) (.v (.func (.func f) #[] #[])) rfl
  simp only [e1, Deferred.ofValue, pure, Sem.bind, e2]
  simp only [Sem.bind, invoke, Array.empty_append, Array.append_empty]

/-- What stands behind an operation that turned one block of the call's own. -/
theorem post_store {R : RO} {hp : List (Nat × HB)} {nx : Nat} {rs : List Row} {ρ : Nat → Nat} {w w' : World} {r : SV} {K : RO → List (Nat × HB) → Nat → List Row → SV → Prop} (hr : HRel R hp nx rs ρ w) {l : Nat} {b b' : HB} (hf : find hp l = some b) (hT : b'.ty = b.ty) (hl : labL nx b'.cs)
    (hb : w'.heap[ρ l]? = some (.cells (valL ρ b'.cs).toArray b.ty (0, 0))) (ho : OneBlk (ρ l) w w') (hlr : lab nx r) (hk : K R (setHp hp l b') nx rs r) :
    ∃ R' hp' nx' rs' ρ' r', (∀ l, l < nx → ρ' l = ρ l) ∧ nx ≤ nx' ∧ (∀ l, nx ≤ l → l < nx' → w.heap.size ≤ ρ' l) ∧ R.le R' ∧ RO.fresh w (Own ρ nx rs) R R' ∧ HRel R' hp' nx' rs' ρ' w' ∧ Keep (Own ρ nx rs) w w' ∧
      (∀ q ∈ rs', ∀ g, q.blk = some g → w.heap.size ≤ g ∨ Own ρ nx rs g) ∧ val ρ r = val ρ' r' ∧ lab nx' r' ∧ K R' hp' nx' rs' r' := by
  let C : Cx := ⟨default, .real, fun _ => none, 0, []⟩
  have hs : SRel C ⟨w, ρ, nx, R, rs⟩ ⟨[], R, hp, nx, rs⟩ ρ ⟨#[], []⟩ w :=
    ⟨fun t x hx => (by simp [find] at hx), rfl, ⟨fun d hd => absurd hd (by simp), fun _ => rfl⟩, hr, fun _ _ => rfl, Nat.le_refl _, .refl _ _, fun l h1 h2 => absurd h2 (by simp at h1 ⊢; omega), fun _ _ h => h, fun _ _ h => .inl h, fun r hr g hg => .inr (.inr ⟨r, hr, hg⟩)⟩
  have h2 := store_sound hs hf hT hl hb ho
  exact ⟨R, setHp hp l b', nx, rs, ρ, r, fun _ _ => rfl, Nat.le_refl _, fun l a b => absurd a (by omega), fun _ _ h => h, fun b o hb => .inl hb, h2.hr, h2.kp, fun q hq g hg => .inr (.inr ⟨q, hq, hg⟩), rfl, hlr, hk⟩

theorem blk_cell {R : RO} {hp : List (Nat × HB)} {nx : Nat} {rs : List Row} {ρ : Nat → Nat} {w : World} (hr : HRel R hp nx rs ρ w) {l n : Nat} {b : HB} {v : Value} (hf : find hp l = some b) (hx : b.cs[n]? = some (.v v)) :
    w.cell? ⟨ρ l, n, none⟩ = some v ∧ w.frozen? ⟨ρ l, n, none⟩ = false := by
  have hb := hr.blk l b hf
  refine ⟨?_, by simp [World.frozen?, hb]⟩
  simp [World.cell?, hb, valL_map, hx, val]

theorem setCell_own {R : RO} {hp : List (Nat × HB)} {nx : Nat} {rs : List Row} {ρ : Nat → Nat} {w : World} (hr : HRel R hp nx rs ρ w) {l n : Nat} {b : HB} {v : Value} (hf : find hp l = some b) :
    (w.setCell ⟨ρ l, n, none⟩ v).heap[ρ l]? = some (.cells (valL ρ (b.cs.set n (.v v))).toArray b.ty (0, 0)) := by
  rw [setCell_self (hr.blk l b hf), valL_set]
  simp [val]

theorem lab_set {n : Nat} {cs : List SV} (h : labL n cs) (i : Nat) (v : Value) : labL n (cs.set i (.v v)) := by
  rw [labL_iff] at h ⊢
  intro x hx
  rcases List.mem_or_eq_of_mem_set hx with h' | rfl
  · exact h x h'
  · trivial

section
variable {C : Cx} {s : St} {o : Oper} {c : Call} {f : Nat} {g : Func} {K : RO → List (Nat × HB) → Nat → List Row → SV → Prop}
  (ho : o.op = .call c) (hc : c.callee = .value (.func f)) (hf : C.P.funcs[f]? = some g) (hname : (g.name == "runtime.NumGoroutine") = false) (hbod : g.body.isNone = true) (hnx : Extern.findNext g = none)
include ho hc hf hname hbod hnx

/-- A mark. -/
theorem gen_mark0 (ha : evs s c.args.toList = some []) (m : Mark) (he : Extern.find g = some (fun _ => do mark m; pure Extern.Race.none_)) (hk : K s.R s.hp s.nx s.rw_ (.v (.tuple #[]))) : GenP C s o K :=
  gen_pure (.v (.tuple #[])) trivial (fun ρ w hr ev hev => by rw [run_callf hev ho hc ha]; exact run_call_mark0 hf hname hbod hnx m he w) hk

/-- A mark of an address. -/
theorem gen_marked {l n : Nat} (ha : evs s c.args.toList = some [.p l n]) (m : Addr → Mark) (he : Extern.find g = some (Extern.Race.marked m)) (hk : K s.R s.hp s.nx s.rw_ (.v (.tuple #[]))) : GenP C s o K :=
  gen_pure (.v (.tuple #[])) trivial (fun ρ w hr ev hev => by rw [run_callf hev ho hc ha]; exact run_call_marked hf hname hbod hnx m he _ w) hk

/-- Compare and swap, where the cell holds the number. -/
theorem gen_cas {l n : Nat} {b : HB} {k : IntKind} {x y : Int} (ha : evs s c.args.toList = some [.p l n, .v (.int k x), .v (.int k y)]) (he : Extern.find g = some (Extern.Atomic.casT (.int k))) (hb : find s.hp l = some b) (hx : b.cs[n]? = some (.v (.int k x)))
    (hk : K s.R (setHp s.hp l { b with cs := b.cs.set n (.v (.int k y)) }) s.nx s.rw_ (.v (.bool true))) : GenP C s o K := by
  refine ⟨fun ρ w hr ev hev => ?_⟩
  obtain ⟨h1, h2⟩ := blk_cell hr hb hx
  rw [run_callf hev ho hc ha]
  show Ups C.P _ ((callFunc f #[.pointer (some ⟨ρ l, n, none⟩), .int k x, .int k y]).run C.P w)
  rw [run_call_cas_hit hf hname hbod hnx k he h1 h2]
  exact post_store (b' := ⟨b.ty, b.cs.set n (.v (.int k y))⟩) (r := .v _) hr hb rfl (lab_set (hr.wf l b hb).2 n _) (setCell_own hr hb) (oneBlk_setCell w _ _ _) trivial hk

/-- A number is added. -/
theorem gen_add {l n : Nat} {b : HB} {k : IntKind} {x y z : Int} (ha : evs s c.args.toList = some [.p l n, .v (.int k y)]) (he : Extern.find g = some (Extern.Atomic.update (Op.intArith .add) k true)) (hb : find s.hp l = some b) (hx : b.cs[n]? = some (.v (.int k x)))
    (hz : ∀ w, (Op.intArith .add k x y).run C.P w = .ok (.int k z) w) (hk : K s.R (setHp s.hp l { b with cs := b.cs.set n (.v (.int k z)) }) s.nx s.rw_ (.v (.int k z))) : GenP C s o K := by
  refine ⟨fun ρ w hr ev hev => ?_⟩
  obtain ⟨h1, h2⟩ := blk_cell hr hb hx
  rw [run_callf hev ho hc ha]
  show Ups C.P _ ((callFunc f #[.pointer (some ⟨ρ l, n, none⟩), .int k y]).run C.P w)
  rw [run_call_add hf hname hbod hnx k he h1 h2 (hz w)]
  exact post_store (b' := ⟨b.ty, b.cs.set n (.v (.int k z))⟩) (r := .v _) hr hb rfl (lab_set (hr.wf l b hb).2 n _) (setCell_own hr hb) (oneBlk_setCell w _ _ _) trivial hk
end

/-- A deferred static call. -/
theorem defer_static {C : Cx} {s : St} {o : Oper} {c : Call} {f : Nat} {vs : List SV} {q : Prop} (ho : o.op = .defer c) (hc : c.callee = .value (.func f)) (ha : evs s c.args.toList = some vs) (hf : ∃ g, C.P.funcs[f]? = some g ∧ g.name ≠ "runtime.NumGoroutine" ∧ g.body.isSome = true)
    (hh : ∀ (ρ : Nat → Nat) (w : World), CallsD C.P f (valL ρ vs).toArray .returning w fun e u w' => u = .returning ∧ ((∃ v, e = .returned v) ∧ Keep (fun _ => False) w w')) (hq : q) : DeferP C s o q := by
  refine ⟨fun ρ w hr ev hev => ?_, hq⟩
  have e2 := evs_arr hev ha
  refine ⟨⟨.fn (.func f) #[], (valL ρ vs).toArray⟩, ?_, .func f, #[], f, (valL ρ vs).toArray, rfl, fun w => ?_, fun w => (hh ρ w).mono ?_⟩
  · unfold execOp
    rw [ho]
    simp only [resolve, hc, bind, pure, Sem.bind]
    have e1 : ev (.func f) = .func (.func f) #[] #[] := hev (.func f) (.v (.func (.func f) #[] #[])) rfl
    simp only [e1, Deferred.ofValue, pure, Sem.bind, e2]
    simp [Sem.bind, Sem.run]
  · simp only [invoke, Array.append_empty]
    exact callFunc_enter hf _ w
  · rintro e u w' ⟨rfl, h1, h2⟩
    exact ⟨h1, rfl, h2⟩

theorem pair_blk {rs rs' : List Row} (h : rs'.map Row.blk = rs.map Row.blk) (hp : rs.Pairwise fun r r' => ∀ g, r.blk = some g → r'.blk ≠ some g) : rs'.Pairwise fun r r' => ∀ g, r.blk = some g → r'.blk ≠ some g := by
  have h1 : (rs.map Row.blk).Pairwise fun x y => ∀ g, x = some g → y ≠ some g := List.pairwise_map.2 hp
  rw [← h] at h1
  exact List.pairwise_map.1 h1

theorem Own.blk {ρ : Nat → Nat} {nx : Nat} {rs rs' : List Row} (h : rs'.map Row.blk = rs.map Row.blk) {b : Nat} (ho : Own ρ nx rs' b) : Own ρ nx rs b := by
  rcases ho with ho | ⟨r, hr, hb⟩
  · exact .inl ho
  · have : some b ∈ rs'.map Row.blk := List.mem_map.2 ⟨r, hr, hb⟩
    rw [h] at this
    obtain ⟨q, hq, hqb⟩ := List.mem_map.1 this
    exact .inr ⟨q, hq, hqb⟩

theorem map_set_blk {rs : List Row} {i : Nat} {r r' : Row} (hi : rs[i]? = some r) (hb : r'.blk = r.blk) : (rs.set i r').map Row.blk = rs.map Row.blk := by
  rw [List.map_set]
  apply List.ext_getElem?
  intro j
  rw [List.getElem?_set]
  by_cases hj : i = j
  · subst hj
    have hlt : i < rs.length := by
      rcases Nat.lt_or_ge i rs.length with h | h
      · exact h
      · rw [List.getElem?_eq_none h] at hi; cases hi
    rw [if_pos rfl, if_pos (by simpa using hlt), List.getElem?_map, hi, hb]
    rfl
  · rw [if_neg hj]

/-- A row's room is told of, ahead of a call. -/
theorem CallP.extend {P : Program} {f : Nat} {args : List SV} {R : RO} {hp : List (Nat × HB)} {nx : Nat} {rs : List Row} {K : RO → List (Nat × HB) → Nat → List Row → SV → Prop} (i : Nat) {r : Row} (hi : rs[i]? = some r) {ad : Addr} (ha : r.a = some ad) (n' : Nat) (hn : r.n ≤ n') (hc : n' ≤ r.cap)
    (h4 : r.sz ≠ 4096) (h : ∀ ys : List Value, ys.length = (n' - r.n) * r.sz → CallP P f args R hp nx (rs.set i { r with n := n', xs := r.xs ++ ys }) K) (hf : ∃ g, P.funcs[f]? = some g ∧ g.name ≠ "runtime.NumGoroutine" ∧ g.body.isSome = true) : CallP P f args R hp nx rs K := by
  refine ⟨hf, fun ρ w hr => ?_⟩
  have hm := List.mem_of_getElem? hi
  obtain ⟨h1, cur, h2, h3, h4', h5, h6⟩ := row_addr ((hr.row r hm).own h4) ha
  have hz : r.n * r.sz ≤ n' * r.sz := Nat.mul_le_mul_right _ hn
  have hz2 : n' * r.sz ≤ r.cap * r.sz := Nat.mul_le_mul_right _ hc
  have hblk : ({ r with n := n', xs := r.xs ++ (cur.toList.take (n' * r.sz)).drop (r.n * r.sz) } : Row).blk = r.blk := by
    rw [row_blk ha]
    exact row_blk ha
  have hmap := map_set_blk hi hblk
  have hxl : r.xs.length = r.n * r.sz := by rw [← h6]; simp; omega
  have hrow : w.ownsRowG 0 r.e r.sz (.slice (some ad) n' r.cap) n' (r.xs ++ (cur.toList.take (n' * r.sz)).drop (r.n * r.sz)) := by
    refine ⟨by simp [hxl]; omega, .inr ⟨ad.block, r.cap, cur, ?_, Nat.zero_le _, h2, hc, h4', h5, ?_⟩⟩
    · rw [← h1]
    · rw [← h6]
      conv => rhs; lhs; rw [← Nat.min_eq_left hz, ← List.take_take]
      rw [List.take_append_drop]
  have hrel : HRel R hp nx (rs.set i { r with n := n', xs := r.xs ++ (cur.toList.take (n' * r.sz)).drop (r.n * r.sz) }) ρ w := by
    refine ⟨hr.blk, hr.inj, hr.lt, hr.ro, hr.dis, hr.wf, ?_, ?_, pair_blk hmap hr.rpair⟩
    · intro q hq
      rcases List.mem_or_eq_of_mem_set hq with hq | rfl
      · exact hr.row q hq
      · refine .inl ⟨h4, ?_⟩
        show w.ownsRowG 0 r.e r.sz (.slice r.a n' r.cap) n' _
        rw [ha]
        exact hrow
    · intro q hq g hg
      rcases List.mem_or_eq_of_mem_set hq with hq | rfl
      · exact hr.rdis q hq g hg
      · exact hr.rdis r hm g (by rw [← hblk]; exact hg)
  refine ((h _ (by simp; rw [Nat.min_eq_left (by omega), Nat.sub_mul])).go ρ w hrel).mono fun e w' ⟨R', hp', nx', rs', ρ', r', q1, q2, q3, q4, q5, q6, q7, qr, q8, q9, q10⟩ => ?_
  exact ⟨R', hp', nx', rs', ρ', r', q1, q2, q3, q4, fun b o hb => (q5 b o hb).imp id (Or.imp id (Own.blk hmap)), q6, ⟨q7.os, q7.tape, q7.output, q7.size, fun k hk hn => q7.block k hk fun ho => hn (Own.blk hmap ho)⟩,
    fun q hq g hg => (qr q hq g hg).imp id (Own.blk hmap), q8, q9, q10⟩

/-- The room of a slice. -/
theorem gen_cap {C : Cx} {s : St} {o : Oper} {c : Call} {t e : Nat} {a : Option Addr} {n k : Nat} {K : RO → List (Nat × HB) → Nat → List Row → SV → Prop} (hA : C.A = .real) (ho : o.op = .call c) (hc : c.callee = .builtin .cap) (ha : evs s c.args.toList = some [.v (.slice a n k)]) (ht : c.argTypes[0]? = some t)
    (hu : C.P.underlying t = some (.slice e)) (hk : K s.R s.hp s.nx s.rw_ (natI C k)) : GenP C s o K := by
  refine gen_pure (natI C k) trivial (fun ρ w hr ev hev => ?_) hk
  have e2 := evs_arr hev ha
  unfold execOp
  rw [ho]
  simp only [resolve, hc, bind, pure, Sem.bind, invoke, builtin, e2, valL, val]
  have h1 : (Builtin.cap_ c.argTypes o.type #[.slice a n k]).run C.P w = .ok (.int .i64 k) w := by
    simp only [Builtin.cap_, ht, bind]
    simp only [List.getElem?_toArray, List.getElem?_cons_zero]
    rw [run_bind_pure (run_und hu)]
    rfl
  rw [run_bind_pure h1]
  simp [natI, val, hA, Ar.real, Sem.run]

/-- A method value of a pointer is not nil. -/
theorem nilP_ptr {C : Cx} {s : St} {o : Oper} {x : Operand} {m : String} {T f : Nat} {v : SV} {q : Prop} (ho : o.op = .nilCheck x) (hx : s.ev x = some v) (hv : ∀ ρ, ∃ b, val ρ v = .func (.method m) #[.iface T (.pointer (some b))] #[])
    (h : methRow C.P T m = some (true, some (f, true))) (hq : q) : NilP C s o v q := by
  obtain ⟨i, row, hi, hm, hp, hf⟩ := methRow_of h
  refine ⟨fun ρ w ev hev => ?_, hq⟩
  obtain ⟨b, hb⟩ := hv ρ
  unfold execOp
  rw [ho]
  simp only [hev x _ hx, hb]
  obtain ⟨n, hn⟩ := depth_pos C.P
  have h1 : (nilAhead (C.P.types.size + Made.depth) T (.pointer (some b)) m).run C.P w = .ok (some false) w := by
    rw [hn, nilAhead]
    simp only [bind]
    rw [run_bind_pure (run_info hi)]
    simp only [hm, hp]
    simp [followBlind, hf, pure, Sem.bind, Sem.run]
  simp only [List.getElem?_toArray, List.getElem?_cons_zero, bind]
  rw [run_bind_pure (show program.run C.P w = .ok C.P w from rfl), run_bind_pure h1]
  simp [pure, Sem.bind, Sem.run]

/-- A part of a row of the call's own, as what is copied or appended. -/
theorem src_part {fr : List (Nat × SV)} {R : RO} {hp : List (Nat × HB)} {nx : Nat} {rs : List Row} {r : Row} (hm : r ∈ rs) {ad : Addr} (ha : r.a = some ad) {l n c : Nat} (hl : l + n ≤ r.xs.length) (h1 : ∀ v ∈ r.xs, v.oneCell' = true) :
    SrcK ⟨fr, R, hp, nx, rs⟩ 1 (.v (.slice (some (ad.add l)) n c)) n ((r.xs.drop l).take n) := by
  refine .raw _ _ _ _ (by simp; omega) (fun j v hv => .inr ⟨r, hm, ad, l + j, ha, ?_, ?_⟩) (fun v hv => h1 v (List.mem_of_mem_drop (List.mem_of_mem_take hv)))
  · rw [add_add]
  · rw [List.getElem?_take] at hv
    split at hv
    · rwa [List.getElem?_drop] at hv
    · cases hv
/-- A call with an own block lent, and more arguments. -/
theorem CallP.lendA {P : Program} {f : Nat} {us : List Value} {R : RO} {b : HB} {K0 : RO → List (Nat × HB) → Nat → List Row → SV → Prop} (h : CallP P f (.p 0 0 :: us.map .v) R [(0, b)] 1 [] K0)
    {hp : List (Nat × HB)} {nx : Nat} {rs : List Row} {L : Nat} {vs : List Value} (hb : find hp L = some b) (hraw : rawL b.cs = some vs) {K : RO → List (Nat × HB) → Nat → List Row → SV → Prop}
    (hk : ∀ R' hp' nx' rs' r, R.le R' → K0 R' hp' nx' rs' r → ∃ b' v vs', find hp' 0 = some b' ∧ rawL b'.cs = some vs' ∧ r = .v v ∧ K R' (setHp hp L b') nx rs (.v v)) : CallP P f (.p L 0 :: us.map .v) R hp nx rs K := by
  refine ⟨h.fn, fun ρ w hr => ?_⟩
  have hL := hr.lt L (hr.wf L b hb).1
  have hblk := hr.blk L b hb
  rw [rawL_val hraw] at hblk
  have hg := h.go (fun _ => ρ L) w ⟨fun l c hf => by
      simp only [find_cons] at hf
      split at hf
      · simp only [Option.some.injEq] at hf
        subst hf
        rw [rawL_val hraw]
        exact hblk
      · simp [find] at hf,
    fun l l' h1 h2 _ => by omega, fun l _ => hL, hr.ro,
    fun l c hf => by
      simp only [find_cons] at hf
      split at hf
      · exact hr.dis L b hb
      · simp [find] at hf,
    fun l c hf => by
      simp only [find_cons] at hf
      split at hf
      · rename_i h0
        simp only [Option.some.injEq] at hf
        subst hf
        exact ⟨by omega, rawL_lab hraw⟩
      · simp [find] at hf,
    fun r hr => by simp at hr, fun r hr => by simp at hr, List.Pairwise.nil⟩
  have ea : valL (fun _ => ρ L) (SV.p 0 0 :: us.map SV.v) = valL ρ (SV.p L 0 :: us.map SV.v) := by
    show _ :: valL _ (us.map SV.v) = _ :: valL _ (us.map SV.v)
    rw [valL_raw, valL_raw]
    rfl
  rw [ea] at hg
  refine hg.mono fun e w' ⟨R', hp', nx', rs', ρ', r, q1, q2, q3, q4, q5, q6, q7, qr, q8, q9, q10⟩ => ?_
  obtain ⟨b', v, vs', hb', hraw', rfl, hK⟩ := hk _ _ _ _ _ q4 q10
  have hown : ∀ k, Own (fun _ => ρ L) 1 [] k → k = ρ L := fun k hk => by
    rcases hk with ⟨l, _, rfl⟩ | ⟨r, hr, _⟩
    · rfl
    · simp at hr
  have hsub : ∀ k, Own (fun _ => ρ L) 1 [] k → Own ρ nx rs k := fun k hk => .inl ⟨L, (hr.wf L b hb).1, hown k hk⟩
  have h0 : ρ' 0 = ρ L := q1 0 (by omega)
  have hne : ∀ l c, find hp l = some c → l ≠ L → ρ l ≠ ρ L := fun l c hl hn he => hn (hr.inj l L (hr.wf l c hl).1 (hr.wf L b hb).1 he)
  have hlt : ∀ k o, R k = some o → k < w.heap.size := fun k o hb => by
    have h1 := hr.ro k o hb
    rcases Nat.lt_or_ge k w.heap.size with h2 | h2
    · exact h2
    · rw [Array.getElem?_eq_none h2] at h1; cases h1
  have hno : ∀ k, k < w.heap.size → k ≠ ρ L → R k = none → R' k = none := fun k hk hn hR => by
    cases hx : R' k with
    | none => rfl
    | some o =>
      rcases q5 k o hx with h | h | h
      · rw [hR] at h; cases h
      · omega
      · exact absurd (hown k h) hn
  have hkeep : ∀ k, k < w.heap.size → k ≠ ρ L → w'.heap[k]? = w.heap[k]? := fun k hk hn => q7.block k hk fun ho => hn (hown k ho)
  have hgr : w.grownBy w' (some (ρ L)) := ⟨q7.os, q7.tape, q7.output, q7.size, fun k hk hn => hkeep k hk fun he => hn (by rw [he])⟩
  refine ⟨R', setHp hp L b', nx, rs, ρ, .v v, fun _ _ => rfl, Nat.le_refl _, fun l a c => absurd a (by omega), q4, fun k o hx => ?_, ⟨?_, hr.inj, ?_, q6.ro, ?_, ?_, ?_, ?_, hr.rpair⟩,
    ⟨q7.os, q7.tape, q7.output, q7.size, fun k hk hn => q7.block k hk fun ho => hn (hsub k ho)⟩, fun q hq g hg => .inr (.inr ⟨q, hq, hg⟩), q8, trivial, hK⟩
  · rcases q5 k o hx with h | h | h
    · exact .inl h
    · exact .inr (.inl h)
    · exact .inr (.inr (hsub k h))
  · intro l c hl
    rcases find_set l c hl with ⟨rfl, rfl⟩ | ⟨h1, h2⟩
    · have := q6.blk 0 _ hb'
      rw [h0, rawL_val hraw'] at this
      rw [rawL_val hraw']
      exact this
    · rw [hkeep _ (hr.lt l (hr.wf l c h2).1) (hne l c h2 h1)]
      exact hr.blk l c h2
  · intro l hl; exact Nat.lt_of_lt_of_le (hr.lt l hl) q7.size
  · intro l c hl
    rcases find_set l c hl with ⟨rfl, rfl⟩ | ⟨h1, h2⟩
    · have := q6.dis 0 _ hb'
      rwa [h0] at this
    · exact hno _ (hr.lt l (hr.wf l c h2).1) (hne l c h2 h1) (hr.dis l c h2)
  · intro l c hl
    rcases find_set l c hl with ⟨rfl, rfl⟩ | ⟨h1, h2⟩
    · exact ⟨(hr.wf _ b hb).1, rawL_lab hraw'⟩
    · exact hr.wf l c h2
  · intro q hq
    refine (hr.row q hq).kept hgr ?_
    cases hv : q.v.ownBlock with
    | none => exact .inl rfl
    | some g =>
      refine .inr ?_
      intro he
      simp only [Option.some.injEq] at he
      exact (hr.rdis q hq g hv).2 L b hb he.symm
  · intro q hq g hg
    obtain ⟨c1, c2⟩ := hr.rdis q hq g hg
    refine ⟨hno g (row_lt hr hq hg) (fun he => c2 L b hb he.symm) c1, fun l c hl => ?_⟩
    rcases find_set l c hl with ⟨rfl, rfl⟩ | ⟨h1, h2⟩
    · exact c2 _ b hb
    · exact c2 l c h2

/-- The first part of a row of the call's own. -/
theorem raw_slice_row {C : Cx} {s : St} {o : Oper} {T e h : Nat} {x y : Operand} {K : SV → Prop} {kd : IntKind} {ii : Int} {j : TypeInfo} {r : Row} (ho : o.op = .slice T x none (some y) none) (hx : s.ev x = some (.v (.slice r.a r.n r.cap)))
    (hy : s.ev y = some (.v (.int kd ii))) (hii : ii = h) (hr : r ∈ s.rw_) (hle : h ≤ r.n) (hT : C.P.underlying T = some (.slice e)) (hj : C.P.info? e = some j) (hK : K (.v (.slice r.a h r.cap))) (h4 : r.sz ≠ 4096 := by show (1 : Nat) ≠ 4096; decide) : RawH C s o K := by
  refine ⟨.v (.slice r.a h r.cap), trivial, hK, fun ρ w hrel ev hev => ?_⟩
  have hc : r.n ≤ r.cap := by
    have hown := (hrel.row r hr).own h4
    have h1 := hown.2
    rcases h1 with ⟨h2, h3⟩ | ⟨g, cap, cur, h2, -, -, h3, -⟩
    · omega
    · have h4 : Value.slice r.a r.n r.cap = Value.slice (some ⟨g, 0, none⟩) r.n cap := h2
      simp only [Value.slice.injEq] at h4
      omega
  unfold execOp
  rw [ho]
  simp only
  refine run_v ?_
  rw [hev x _ hx]
  simp only [Instr.sliceAt, Option.map_none, Option.map_some, bind, val]
  rw [run_bind_pure (run_und hT)]
  simp only [Instr.slice, bind]
  rw [run_bind_pure (run_und hT)]
  simp only
  rw [hev y _ hy]
  have hb := run_sliceBounds (P := C.P) (w := w) (isS := true) (len := r.n) (cap := r.cap) (k1 := .i64) (k2 := kd) (l := 0) (h := h) (lo := none) (hi := some (.int kd (h : Int))) (.inl ⟨rfl, rfl⟩) (.inr rfl) (Nat.zero_le _) (Nat.le_trans hle hc)
  rw [show val ρ (.v (.int kd ii)) = .int kd (h : Int) by rw [hii]; rfl]
  rw [run_bind_pure hb]
  simp only
  rw [run_bind_pure (run_size hj)]
  show Sem.run C.P (pure (Value.slice (if r.cap = 0 then r.a else r.a.map (·.add (0 * j.size))) (h - 0) (r.cap - 0))) w = _
  have e : (if r.cap = 0 then r.a else r.a.map (·.add (0 * j.size))) = r.a := by
    split
    · rfl
    · cases r.a with
      | none => rfl
      | some ad => simp [Addr.add]
  rw [e]
  rfl
end Go.Se
