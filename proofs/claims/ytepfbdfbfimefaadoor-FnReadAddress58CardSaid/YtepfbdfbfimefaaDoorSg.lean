/- The evaluator is sound: every operation but calls. -/
import Derived.Test.YtepfbdfbfimefaaDoorSf
set_option linter.unusedSimpArgs false
set_option linter.unusedVariables false
namespace Go.Se
open Go

section
variable {C : Cx} {E : En} {s : St} {ρ : Nat → Nat} {a : Act} {w : World}

theorem run_guard_other {P : Program} {op : BinOp} {t : Nat} {x y : Operand} {u v : Value}
    (h1 : ¬ (u = .nilIface ∧ v = .nilIface)) (h2 : ∀ cs, u ≠ .agg cs) : ∀ w, (eqGuard op t x y u v).run P w = .ok () w := by
  intro w
  unfold eqGuard
  cases op
  case eql | neq =>
    simp only [Bool.not_true, Bool.false_eq_true, if_false]
    split
    · exact absurd ⟨rfl, rfl⟩ h1
    · exact absurd rfl (h2 _)
    · rfl
  all_goals rfl

theorem run_bin {P : Program} {op : BinOp} {t : Nat} {x y : Operand} {u v r : Value} (hg : ∀ w, (eqGuard op t x y u v).run P w = .ok () w)
    (hb : ∀ w, (binOp op t u v).run P w = .ok r w) : ∀ w, (do eqGuard op t x y u v; binOp op t u v : Sem Value).run P w = .ok r w := by
  intro w
  simp only [bind]
  rw [run_bind_pure (hg w)]
  exact hb w

/-- '==' and '!=' that the type decides. -/
theorem run_eq {P : Program} {op : BinOp} {t : Nat} {u v : Value} {b : Bool} {A : Ar} (hA : A = .real) {K : SV → Prop} {C : Cx} (hC : C.A = A)
    (hk : nilCmp C op b K) (he : ∀ w, (Op.equal t u v).run P w = .ok b w)
    (hn : ∀ op, (op = .eql ∨ op = .neq) → binOp op t u v = (if op = .eql then (do pure (.bool (← Op.equal t u v))) else (do pure (.bool (!(← Op.equal t u v)))))) :
    ∃ r, K (.v r) ∧ ∀ w, (binOp op t u v).run P w = .ok r w := by
  subst hA
  cases op <;> simp only [nilCmp] at hk
  case eql =>
    refine ⟨_, hk, fun w => ?_⟩
    rw [hn .eql (.inl rfl)]
    simp only [if_true, bind]
    rw [run_bind_pure (he w)]
    rfl
  case neq =>
    refine ⟨_, hk, fun w => ?_⟩
    rw [hn .neq (.inr rfl)]
    simp only [bind]
    rw [if_neg (by simp)]
    rw [run_bind_pure (he w), hC]
    rfl

theorem und_of {P : Program} {t : Nat} {y : Ty} (h : tyOf P t = some y) : ∃ d, P.underlying t = some d ∧ tdOf d = y.d := by
  obtain ⟨i, d, hi, hd, hz, hs, ht, hg⟩ := tyOf_parts h
  exact ⟨d, hd, ht⟩

theorem td_ptr {d : TypeDesc} (h : tdOf d = .ptr) : ∃ e, d = .pointer e := by cases d <;> simp [tdOf] at h <;> exact ⟨_, rfl⟩
theorem td_slc {d : TypeDesc} {e : Nat} (h : tdOf d = .slc e) : d = .slice e := by cases d <;> simp [tdOf] at h <;> rw [h]
theorem td_bool {d : TypeDesc} (h : tdOf d = .bool) : d = .bool := by cases d <;> simp [tdOf] at h <;> rfl
theorem td_ifc {d : TypeDesc} (h : tdOf d = .ifc) : ∃ m, d = .interface m := by cases d <;> simp [tdOf] at h <;> exact ⟨_, rfl⟩
theorem td_int {d : TypeDesc} {k : IntKind} (h : tdOf d = .int k) : d = .int k := by cases d <;> simp [tdOf] at h <;> rw [h]
theorem td_stc {d : TypeDesc} {fs : List (Nat × Nat)} (h : tdOf d = .stc fs) : ∃ f, d = .struct f ∧ fs = f.toList.map fun f => (f.offset, f.type) := by
  cases d <;> simp [tdOf] at h
  exact ⟨_, rfl, h.symm⟩
theorem td_arr {d : TypeDesc} {n e : Nat} (h : tdOf d = .arr n e) : d = .array n e := by
  cases d <;> simp [tdOf] at h
  rw [h.1, h.2]

theorem run_equal {P : Program} {t : Nat} {u v : Value} {d : TypeDesc} {b : Bool} (hd : P.underlying t = some d)
    (h : ∀ n w, (Op.equalIn (n + 1) t u v).run P w = .ok b w) : ∀ w, (Op.equal t u v).run P w = .ok b w := h 9999

theorem run_guard_nil {P : Program} {op : BinOp} {t : Nat} {x y : Operand} (hc : (isC x || isC y) = true) :
    ∀ w, (eqGuard op t x y .nilIface .nilIface).run P w = .ok () w := by
  intro w
  unfold eqGuard
  cases op
  case eql | neq =>
    simp only [Bool.not_true, Bool.false_eq_true, if_false]
    cases x <;> cases y <;> first | rfl | simp [isC] at hc
  all_goals rfl

theorem binVC_main (hA : C.A = .real) (hT : TysOk C.P C.ty) (hs : SRel C E s ρ a w) {o : Oper} {op : BinOp} {T T' : Nat} {x y : Operand} {u v : SV} {K : SV → Prop}
    (ho : o.op = .binOp op T x y T') (hx : s.ev x = some u) (hy : s.ev y = some v)
    (hR : (∃ u' v', u = .v u' ∧ v = .v v') ∨ ¬ RawH C s o K) (h : binVC C s o op (C.ty T) (isC x || isC y) u v K) : ∃ r, K (.v r) ∧ ∀ w, (execOp a.eval o).run C.P w = .ok (.value r) w := by
  have ex := (ev_val hs hx).1
  have ey := (ev_val hs hy).1
  have fin : ∀ {r}, (∀ w, (do eqGuard op T x y (val ρ u) (val ρ v); binOp op T (val ρ u) (val ρ v) : Sem Value).run C.P w = .ok r w) →
      ∀ w, (execOp a.eval o).run C.P w = .ok (.value r) w := by
    intro r hr w
    unfold execOp
    rw [ho]
    simp only
    rw [ex, ey]
    exact run_v (hr w)
  have eqs : ∀ {b : Bool} {U V : Value}, val ρ u = U → val ρ v = V → nilCmp C op b K → (¬ (U = .nilIface ∧ V = .nilIface)) → (∀ cs, U ≠ .agg cs) →
      (∀ op, (op = .eql ∨ op = .neq) → binOp op T U V = (if op = .eql then (do pure (.bool (← Op.equal T U V))) else (do pure (.bool (!(← Op.equal T U V)))))) →
      (∀ w, (Op.equal T U V).run C.P w = .ok b w) → ∃ r, K (.v r) ∧ ∀ w, (execOp a.eval o).run C.P w = .ok (.value r) w := by
    intro b U V hU hV hk hn1 hn2 hbo he
    obtain ⟨r, hr, hb⟩ := run_eq (P := C.P) hA rfl hk he hbo
    refine ⟨r, hr, fin ?_⟩
    rw [hU, hV]
    exact run_bin (run_guard_other hn1 hn2) hb
  unfold binVC at h
  split at h
  · -- ints
    rename_i k i k' j
    cases hb : (isShift op || (k == k')) with
    | false => simp only [hb, cond_false] at h; exact h.no.elim
    | true =>
      simp only [hb, cond_true] at h
      obtain ⟨r, hr, hrun, hty⟩ := intBin_sound (P := C.P) hA h hb
      exact ⟨r, hr, fin (run_bin (run_guard_other (by simp [val]) (by simp [val])) (fun w => by rw [← hrun w]; simp only [val]; rw [hty T]))⟩
  · -- bools
    split at h
    · rename_i hD
      obtain ⟨d, hd, hk⟩ := und_of (hT _ _ hD)
      obtain rfl := td_bool hk
      refine eqs rfl rfl h (by simp [val]) (by simp [val]) (by rintro op (rfl | rfl) <;> rfl) (run_equal hd fun n w => ?_)
      simp only [Op.equalIn, bind, val]
      rw [run_bind_pure (run_und hd), hA]
      rfl
    · exact h.no.elim
  · -- strings
    rename_i i j
    cases op <;> simp only at h
    case add =>
      obtain ⟨h1, h2⟩ := h
      refine ⟨_, h2, fin (run_bin (run_guard_other (by simp [val]) (by simp [val])) fun w => ?_)⟩
      simp only [val, binOp, Op.stringOp]
      rw [if_neg (by simp [IntKind.max, IntKind.bits, IntKind.signed]; omega), hA]
      rfl
    all_goals
      first
        | exact h.elim
        | (refine ⟨_, h, fin (run_bin (run_guard_other (by simp [val]) (by simp [val])) fun w => ?_)⟩
           simp only [val, binOp, Op.stringOp]
           rw [hA]
           rfl)
  · -- nil pointer, pointer
    rename_i y'
    split at h
    · rename_i hD
      obtain ⟨d, hd, hk⟩ := und_of (hT _ _ hD)
      obtain ⟨e, rfl⟩ := td_ptr hk
      refine eqs rfl rfl h (by simp [val]) (by simp [val]) (by rintro op (rfl | rfl) <;> rfl) (run_equal hd fun n w => ?_)
      simp only [Op.equalIn, bind, val]
      rw [run_bind_pure (run_und hd)]
      cases y' <;> rfl
    · exact h.no.elim
  · split at h
    · rename_i hD
      obtain ⟨d, hd, hk⟩ := und_of (hT _ _ hD)
      obtain ⟨e, rfl⟩ := td_ptr hk
      refine eqs rfl rfl h (by simp [val]) (by simp [val]) (by rintro op (rfl | rfl) <;> rfl) (run_equal hd fun n w => ?_)
      simp only [Op.equalIn, bind, val]
      rw [run_bind_pure (run_und hd)]
      rfl
    · exact h.no.elim
  · split at h
    · rename_i hD
      obtain ⟨d, hd, hk⟩ := und_of (hT _ _ hD)
      obtain ⟨e, rfl⟩ := td_ptr hk
      refine eqs rfl rfl h (by simp [val]) (by simp [val]) (by rintro op (rfl | rfl) <;> rfl) (run_equal hd fun n w => ?_)
      simp only [Op.equalIn, bind, val]
      rw [run_bind_pure (run_und hd)]
      rfl
    · exact h.no.elim
  · split at h
    · rename_i hD
      obtain ⟨d, hd, hk⟩ := und_of (hT _ _ hD)
      obtain ⟨e, rfl⟩ := td_ptr hk
      refine eqs rfl rfl h (by simp [val]) (by simp [val]) (by rintro op (rfl | rfl) <;> rfl) (run_equal hd fun n w => ?_)
      simp only [Op.equalIn, bind, val]
      rw [run_bind_pure (run_und hd)]
      rfl
    · exact h.no.elim
  · rename_i y' _ _
    split at h
    · rename_i hD
      obtain ⟨d, hd, hk⟩ := und_of (hT _ _ hD)
      obtain rfl := td_slc hk
      refine eqs rfl rfl h (by simp [val]) (by simp [val]) (by rintro op (rfl | rfl) <;> rfl) (run_equal hd fun n w => ?_)
      simp only [Op.equalIn, bind, val]
      rw [run_bind_pure (run_und hd)]
      cases y' <;> rfl
    · exact h.no.elim
  · split at h
    · rename_i hD
      obtain ⟨d, hd, hk⟩ := und_of (hT _ _ hD)
      obtain rfl := td_slc hk
      refine eqs rfl rfl h (by simp [val]) (by simp [val]) (by rintro op (rfl | rfl) <;> rfl) (run_equal hd fun n w => ?_)
      simp only [Op.equalIn, bind, val]
      rw [run_bind_pure (run_und hd)]
      rfl
    · exact h.no.elim
  · split at h
    · rename_i hD
      obtain ⟨d, hd, hk⟩ := und_of (hT _ _ hD)
      obtain rfl := td_slc hk
      refine eqs rfl rfl h (by simp [val]) (by simp [val]) (by rintro op (rfl | rfl) <;> rfl) (run_equal hd fun n w => ?_)
      simp only [Op.equalIn, bind, val]
      rw [run_bind_pure (run_und hd)]
      rfl
    · exact h.no.elim
  · -- nil, nil
    split at h
    · rename_i hD hc
      obtain ⟨d, hd, hk⟩ := und_of (hT _ _ hD)
      obtain ⟨m, rfl⟩ := td_ifc hk
      have he : ∀ w, (Op.equal T .nilIface .nilIface).run C.P w = .ok true w := run_equal hd fun n w => by
        simp only [Op.equalIn, bind]
        rw [run_bind_pure (run_und hd)]
        rfl
      obtain ⟨r, hr, hb⟩ := run_eq (P := C.P) hA rfl h he (by rintro op (rfl | rfl) <;> rfl)
      exact ⟨r, hr, fin (run_bin (run_guard_nil hc) hb)⟩
    · exact h.no.elim
  · split at h
    · rename_i hD
      obtain ⟨d, hd, hk⟩ := und_of (hT _ _ hD)
      obtain ⟨m, rfl⟩ := td_ifc hk
      refine eqs rfl rfl h (by simp [val]) (by simp [val]) (by rintro op (rfl | rfl) <;> rfl) (run_equal hd fun n w => ?_)
      simp only [Op.equalIn, bind, val]
      rw [run_bind_pure (run_und hd)]
      rfl
    · exact h.no.elim
  · split at h
    · rename_i hD
      obtain ⟨d, hd, hk⟩ := und_of (hT _ _ hD)
      obtain ⟨m, rfl⟩ := td_ifc hk
      refine eqs rfl rfl h (by simp [val]) (by simp [val]) (by rintro op (rfl | rfl) <;> rfl) (run_equal hd fun n w => ?_)
      simp only [Op.equalIn, bind, val]
      rw [run_bind_pure (run_und hd)]
      rfl
    · exact h.no.elim
  · -- the model itself
    obtain ⟨r, hr, hk⟩ := h.go
    refine ⟨r, hk, fun w => ?_⟩
    have := hr w
    unfold execOp at this ⊢
    rw [ho] at this ⊢
    simp only at this ⊢
    rw [ex, ey]
    simp only [rawEv, hx, hy] at this
    exact this
  · rename_i hno
    rcases hR with ⟨u', v', e1, e2⟩ | hR
    · exact (hno u' v' e1 e2).elim
    · exact absurd h hR

theorem binVC_sound (hA : C.A = .real) (hT : TysOk C.P C.ty) (hs : SRel C E s ρ a w) {o : Oper} {op : BinOp} {T T' : Nat} {x y : Operand} {u v : SV} {K : SV → Prop}
    (ho : o.op = .binOp op T x y T') (hx : s.ev x = some u) (hy : s.ev y = some v)
    (h : binVC C s o op (C.ty T) (isC x || isC y) u v K) : (∃ r, K (.v r) ∧ ∀ w, (execOp a.eval o).run C.P w = .ok (.value r) w) ∨ RawH C s o K := by
  by_cases hR : RawH C s o K
  · exact .inr hR
  · exact .inl (binVC_main hA hT hs ho hx hy (.inr hR) h)
end
end Go.Se
