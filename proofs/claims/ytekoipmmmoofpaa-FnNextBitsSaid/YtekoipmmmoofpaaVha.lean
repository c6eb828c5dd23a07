/- Headers: places of rows, structs that are the same. -/
import Derived.Test.YtekoipmmmoofpaaSu
set_option linter.unusedSimpArgs false
set_option linter.unusedVariables false
namespace Go.Se
open Go

theorem CallP.mono {P : Program} {f : Nat} {args : List SV} {R : RO} {hp : List (Nat × HB)} {nx : Nat} {rs : List Row} {K K' : RO → List (Nat × HB) → Nat → List Row → SV → Prop} (h : CallP P f args R hp nx rs K)
    (hk : ∀ R' hp' nx' rs' r, K R' hp' nx' rs' r → K' R' hp' nx' rs' r) : CallP P f args R hp nx rs K' :=
  ⟨h.fn, fun ρ w hr => (h.go ρ w hr).mono fun e w' ⟨R', hp', nx', rs', ρ', r, q1, q2, q3, q4, q5, q6, q7, qr, q8, q9, q10⟩ => ⟨R', hp', nx', rs', ρ', r, q1, q2, q3, q4, q5, q6, q7, qr, q8, q9, hk _ _ _ _ _ q10⟩⟩

theorem addr_add2 (a : Addr) (i j : Nat) : (a.add i).add j = a.add (i + j) := by
  by_cases hi : i = 0
  · subst hi
    simp [Addr.add]
  · by_cases hj : j = 0
    · subst hj
      simp [Addr.add]
    · simp [Addr.add, hi, hj, Nat.add_assoc]

/-- A field of a row that is a struct. -/
theorem ld_rfld {fld_ : Addr → Nat → Addr} (hF : fld_ = Ar.real.fld) {R : RO} {rs : List Row} (m : Nat) {r : Row} (hr : rs[m]? = some r) {a : Addr} (ha : r.a = some a) (o : Nat) {v : Value} (h : r.xs[o]? = some v) {K : Value → Prop}
    (hk : K v) : LoadP R rs (fld_ a o) false 1 K :=
  ⟨v, .inr ⟨r, List.mem_of_getElem? hr, a, o, ha, by rw [hF]; rfl, h⟩, hk⟩

/-- A stretch of a row that is a struct. -/
theorem ld_rpart {fld_ : Addr → Nat → Addr} (hF : fld_ = Ar.real.fld) {R : RO} {rs : List Row} (m : Nat) {r : Row} (hr : rs[m]? = some r) {a : Addr} (ha : r.a = some a) (o n : Nat) {cs : List Value} (hl : cs.length = n)
    (h : (r.xs.drop o).take n = cs) {K : Value → Prop} (hk : K (.agg cs.toArray)) : LoadP R rs (fld_ a o) true n K :=
  ⟨_, ⟨cs, rfl, hl, fun i v hv => .inr ⟨r, List.mem_of_getElem? hr, a, o + i, ha, by rw [hF]; show (a.add o).add i = _; exact addr_add2 _ _ _, by
    rw [← h, List.getElem?_take] at hv
    split at hv
    · rw [List.getElem?_drop] at hv
      exact hv
    · cases hv⟩⟩, hk⟩

/-- All of a row. -/
theorem ld_rall {R : RO} {rs : List Row} (m : Nat) {r : Row} (hr : rs[m]? = some r) {a : Addr} (ha : r.a = some a) {n : Nat} (hl : r.xs.length = n) {K : Value → Prop} (hk : K (.agg r.xs.toArray)) : LoadP R rs a true n K :=
  ⟨_, ⟨r.xs, rfl, hl, fun i v hv => .inr ⟨r, List.mem_of_getElem? hr, a, i, ha, rfl, hv⟩⟩, hk⟩

theorem eqFields_same {P : Program} (d : Nat) (xs : Array Value) : ∀ fs : List Field, (∀ f ∈ fs, ∃ v, (∀ w, (part f.type xs f.offset).run P w = .ok v w) ∧ ∀ w, (Op.equalIn d f.type v v).run P w = .ok true w) → ∀ w, (Op.eqFields d xs xs fs).run P w = .ok true w
  | [], _, w => by simp [Op.eqFields]
  | f :: fs, h, w => by
    obtain ⟨v, h1, h2⟩ := h f (List.mem_cons_self ..)
    have ih := eqFields_same d xs fs (fun g hg => h g (List.mem_cons_of_mem _ hg)) w
    unfold Op.eqFields
    split
    · simp only [Sem.run_bind, h1, h2, Result.andThen_ok, Bool.not_true, Bool.false_eq_true, if_false]
      exact ih
    · exact ih

theorem part_int {P : Program} {e off : Nat} {k : IntKind} {n : Int} {xs : List Value} (he : P.underlying e = some (.int k)) (hx : xs[off]? = some (.int k n)) (w : World) : (part e xs.toArray off).run P w = .ok (.int k n) w := by
  simp [part, isAgg, run_underlying he, hx]

theorem part_arr {P : Program} {e off e' n : Nat} {i : TypeInfo} {xs ys : List Value} (he : P.underlying e = some (.array n e')) (hi : P.info? e = some i) (hx : (xs.drop off).take (P.cellsOf e) = ys) (w : World) : (part e xs.toArray off).run P w = .ok (.agg ys.toArray) w := by
  have h : (xs.toArray.extract off (off + P.cellsOf e)) = ys.toArray := by
    apply Array.toList_inj.1
    rw [Array.toList_extract]
    simp [List.extract, hx]
  simp [part, isAgg, run_underlying he, run_sizeOf w hi, h, hx]

theorem raw_same {P : Program} {o : Oper} {ev : Operand → Value} {K : Value → Prop} {T t2 : Nat} {x y : Operand} (ho : o.op = .binOp .eql T x y t2) (hg : P.eqGuardType P.depth T = false) (l : Array Value) (hx : ev x = .agg l) (hy : ev y = .agg l)
    (he : ∀ w, (Op.equalIn 10000 T (.agg l) (.agg l)).run P w = .ok true w) (hK : K (.bool true)) : RawP P o ev K := by
  refine ⟨.bool true, fun w => ?_, hK⟩
  unfold execOp
  rw [ho]
  simp only [hx, hy]
  exact run_v (run_bin (fun w => run_eqGuard_agg w .eql T x y _ _ hg) (fun w => by
    have h := run_eql_struct (P := P) w T l l
    rw [he w] at h
    exact h) w)

theorem l32 {α : Type} {l : List α} (h : l.length = 32) : ∃ b0 b1 b2 b3 b4 b5 b6 b7 b8 b9 b10 b11 b12 b13 b14 b15 b16 b17 b18 b19 b20 b21 b22 b23 b24 b25 b26 b27 b28 b29 b30 b31 : α, l = [b0, b1, b2, b3, b4, b5, b6, b7, b8, b9, b10, b11, b12, b13, b14, b15, b16, b17, b18, b19, b20, b21, b22, b23, b24, b25, b26, b27, b28, b29, b30, b31] := by
  obtain ⟨b0, l0, rfl, h0⟩ := uncons h
  obtain ⟨b1, l1, rfl, h1⟩ := uncons h0
  obtain ⟨b2, l2, rfl, h2⟩ := uncons h1
  obtain ⟨b3, l3, rfl, h3⟩ := uncons h2
  obtain ⟨b4, l4, rfl, h4⟩ := uncons h3
  obtain ⟨b5, l5, rfl, h5⟩ := uncons h4
  obtain ⟨b6, l6, rfl, h6⟩ := uncons h5
  obtain ⟨b7, l7, rfl, h7⟩ := uncons h6
  obtain ⟨b8, l8, rfl, h8⟩ := uncons h7
  obtain ⟨b9, l9, rfl, h9⟩ := uncons h8
  obtain ⟨b10, l10, rfl, h10⟩ := uncons h9
  obtain ⟨b11, l11, rfl, h11⟩ := uncons h10
  obtain ⟨b12, l12, rfl, h12⟩ := uncons h11
  obtain ⟨b13, l13, rfl, h13⟩ := uncons h12
  obtain ⟨b14, l14, rfl, h14⟩ := uncons h13
  obtain ⟨b15, l15, rfl, h15⟩ := uncons h14
  obtain ⟨b16, l16, rfl, h16⟩ := uncons h15
  obtain ⟨b17, l17, rfl, h17⟩ := uncons h16
  obtain ⟨b18, l18, rfl, h18⟩ := uncons h17
  obtain ⟨b19, l19, rfl, h19⟩ := uncons h18
  obtain ⟨b20, l20, rfl, h20⟩ := uncons h19
  obtain ⟨b21, l21, rfl, h21⟩ := uncons h20
  obtain ⟨b22, l22, rfl, h22⟩ := uncons h21
  obtain ⟨b23, l23, rfl, h23⟩ := uncons h22
  obtain ⟨b24, l24, rfl, h24⟩ := uncons h23
  obtain ⟨b25, l25, rfl, h25⟩ := uncons h24
  obtain ⟨b26, l26, rfl, h26⟩ := uncons h25
  obtain ⟨b27, l27, rfl, h27⟩ := uncons h26
  obtain ⟨b28, l28, rfl, h28⟩ := uncons h27
  obtain ⟨b29, l29, rfl, h29⟩ := uncons h28
  obtain ⟨b30, l30, rfl, h30⟩ := uncons h29
  obtain ⟨b31, l31, rfl, h31⟩ := uncons h30
  obtain rfl := List.eq_nil_of_length_eq_zero h31
  exact ⟨b0, b1, b2, b3, b4, b5, b6, b7, b8, b9, b10, b11, b12, b13, b14, b15, b16, b17, b18, b19, b20, b21, b22, b23, b24, b25, b26, b27, b28, b29, b30, b31, rfl⟩
end Go.Se
