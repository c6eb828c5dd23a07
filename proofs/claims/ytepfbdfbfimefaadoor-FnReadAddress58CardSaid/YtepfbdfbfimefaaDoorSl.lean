/- The evaluator: contracts, calls by contract, the row's end. -/
import Derived.Test.YtepfbdfbfimefaaDoorSk
set_option linter.unusedSimpArgs false
set_option linter.unusedVariables false
namespace Go.Se
open Go Go.RowKit

/-- The blocks of a call's own, now told as read-only memory. -/
def Pub (hp : List (Nat × HB)) (ρ : Nat → Nat) (R : RO) : Prop := ∀ l b, find hp l = some b → R (ρ l) = some (.cells (valL ρ b.cs).toArray b.ty (0, 0))

/-- A row, told as read-only memory. -/
def PubRow (R : RO) (r : Row) : Prop := r.sz ≠ 4096 → ∀ a, r.a = some a → a = ⟨a.block, 0, none⟩ ∧ ∃ cur, (∃ fz, R a.block = some (.cells cur r.e fz)) ∧ r.n ≤ r.cap ∧ cur.size = r.cap * r.sz ∧ cur.toList.take (r.n * r.sz) = r.xs

def PubR (rs : List Row) (R : RO) : Prop := ∀ r ∈ rs, PubRow R r

/-- What a function answers, and what is known of memory behind it; nothing that was there has turned. -/
structure RetP (P : Program) (f : Nat) (vs : List Value) (R : RO) (Ψ : RO → Value → Prop) : Prop where
  fn : ∃ g, P.funcs[f]? = some g ∧ g.name ≠ "runtime.NumGoroutine" ∧ g.body.isSome = true
  go : ∀ w : World, (∀ b o, R b = some o → w.heap[b]? = some o) → Calls P f vs.toArray w fun e w' =>
    ∃ R' v, R.le R' ∧ RO.fresh w (fun _ => False) R R' ∧ (∀ b o, R' b = some o → w'.heap[b]? = some o) ∧ Keep (fun _ => False) w w' ∧ e = .returned v ∧ Ψ R' v

theorem RO.le_refl (R : RO) : R.le R := fun _ _ h => h
theorem RO.le_trans {a b c : RO} (h : a.le b) (k : b.le c) : a.le c := fun x o hx => k x o (h x o hx)

theorem RetP.mono {P : Program} {f : Nat} {vs : List Value} {R : RO} {Ψ Ψ' : RO → Value → Prop} (h : RetP P f vs R Ψ) (hk : ∀ R' v, R.le R' → Ψ R' v → Ψ' R' v) : RetP P f vs R Ψ' :=
  ⟨h.fn, fun w hw => (h.go w hw).mono fun e w' ⟨R', v, h1, h2, h3, h4, h5, h6⟩ => ⟨R', v, h1, h2, h3, h4, h5, hk _ _ h1 h6⟩⟩

theorem valL_raw (ρ : Nat → Nat) (vs : List Value) : valL ρ (vs.map .v) = vs := by
  rw [valL_map, List.map_map]
  conv => rhs; rw [← List.map_id vs]
  rfl

open Classical in
theorem RetP.of_callP {P : Program} {f : Nat} {vs : List Value} {R : RO} {Ψ : RO → Value → Prop}
    (h : CallP P f (vs.map .v) R [] 0 [] fun R' hp' _ rs' r => ∀ ρ R'', R'.le R'' → Pub hp' ρ R'' → PubR rs' R'' → Ψ R'' (val ρ r)) : RetP P f vs R Ψ := by
  refine ⟨h.fn, fun w hw => ?_⟩
  have hg := h.go (fun _ => 0) w ⟨fun l b hf => by simp [find] at hf, fun l _ hl => absurd hl (by omega), fun l hl => absurd hl (by omega), hw,
    fun l b hf => by simp [find] at hf, fun l b hf => by simp [find] at hf, fun r hr => by simp at hr, fun r hr => by simp at hr, List.Pairwise.nil⟩
  rw [valL_raw] at hg
  refine hg.mono fun e w' ⟨R', hp', nx', rs', ρ', r, q1, q2, q3, q4, q5, q6, q7, qr, q8, q9, q10⟩ => ?_
  have hown : ∀ b, ¬ Own (fun _ => 0) 0 [] b := fun b hb => by
    rcases hb with ⟨l, hl, _⟩ | ⟨r, hr, _⟩
    · omega
    · simp at hr
  let Z : Nat → Prop := fun b => (∃ l k, find hp' l = some k ∧ ρ' l = b) ∨ ∃ q ∈ rs', q.blk = some b
  let R'' : RO := fun b => if Z b then w'.heap[b]? else R' b
  have hZ : ∀ b, Z b → R'' b = w'.heap[b]? := fun b hb => if_pos hb
  have hN : ∀ b, ¬ Z b → R'' b = R' b := fun b hb => if_neg hb
  have hle : R'.le R'' := fun b o hb => by
    rw [hN b fun hz => ?_]
    · exact hb
    · rcases hz with ⟨l, k, h1, rfl⟩ | ⟨q, hq, hg⟩
      · rw [q6.dis l k h1] at hb; cases hb
      · rw [(q6.rdis q hq b hg).1] at hb; cases hb
  have hP : Pub hp' ρ' R'' := fun l k hk => by
    rw [hZ _ (.inl ⟨l, k, hk, rfl⟩)]
    exact q6.blk l k hk
  have hPR : PubR rs' R'' := fun q hq hz a ha => by
    obtain ⟨h1, cur, ⟨fz, h2, _⟩, h3, _, h4, h5⟩ := row_addr ((q6.row q hq).own hz) ha
    exact ⟨h1, cur, ⟨fz, by rw [hZ _ (.inr ⟨q, hq, row_blk ha⟩)]; exact h2⟩, h3, h4, h5⟩
  refine ⟨R'', _, RO.le_trans q4 hle, ?_, ?_, ⟨q7.os, q7.tape, q7.output, q7.size, fun k hk _ => q7.block k hk (hown k)⟩, q8, q10 ρ' R'' hle hP hPR⟩
  · intro b o hb
    by_cases hx : Z b
    · refine .inr (.inl ?_)
      rcases hx with ⟨l, k, h1, rfl⟩ | ⟨q, hq, hg⟩
      · exact q3 l (Nat.zero_le _) (q6.wf _ _ h1).1
      · rcases qr q hq b hg with h | h
        · exact h
        · exact absurd h (hown b)
    · rw [hN b hx] at hb
      rcases q5 b o hb with h | h | h
      · exact .inl h
      · exact .inr (.inl h)
      · exact absurd h (hown b)
  · intro b o hb
    by_cases hx : Z b
    · rw [hZ b hx] at hb; exact hb
    · rw [hN b hx] at hb; exact q6.ro b o hb

/-- A contract, by the body. -/
theorem retP_of_vc {P : Program} {f : Nat} {fn : Func} {c : Code} {tys : Nat → Option Ty} {fz : List Nat} {vs : List Value} {R : RO} {Ψ : RO → Value → Prop}
    (hf : P.funcs[f]? = some fn) (hb : fn.body = some c) (hn : fn.name ≠ "runtime.NumGoroutine") (hlen : Nat.ble vs.length fn.ntmps = true) (hT : TysOk P tys)
    (h : ∀ P' A, P' = P → A = Ar.real → codeVC ⟨P', A, tys, fn.ntmps, fz⟩ c ⟨fr0 0 (vs.map .v), R, [], 0, []⟩
      (endVC ⟨P', A, tys, fn.ntmps, fz⟩ fn.results.toList fun s r => ∀ ρ R'', s.R.le R'' → Pub s.hp ρ R'' → PubR s.rw_ R'' → Ψ R'' (val ρ r))) : RetP P f vs R Ψ :=
  .of_callP (callP_of_vc hf hb hn (by simpa using Nat.le_of_ble_eq_true hlen) hT (by rw [labL_iff]; intro x hx; obtain ⟨v, _, rfl⟩ := List.mem_map.1 hx; trivial) h)

/-- A call by contract: the blocks of the caller's own stay as they are. -/
theorem RetP.callP {P : Program} {f : Nat} {vs : List Value} {R : RO} {Ψ : RO → Value → Prop} (h : RetP P f vs R Ψ) {hp : List (Nat × HB)} {nx : Nat} {rs : List Row} {args : List SV}
    (ha : args = vs.map .v) {K : RO → List (Nat × HB) → Nat → List Row → SV → Prop} (hk : ∀ R' v, R.le R' → Ψ R' v → K R' hp nx rs (.v v)) : CallP P f args R hp nx rs K := by
  subst ha
  refine ⟨h.fn, fun ρ w hr => ?_⟩
  rw [valL_raw]
  refine (h.go w hr.ro).mono fun e w' ⟨R', v, h1, h2, h3, h4, h5, h6⟩ => ?_
  have hnew : ∀ b o, R' b = some o → R b = some o ∨ w.heap.size ≤ b := fun b o hb => by
    rcases h2 b o hb with h | h | h
    · exact .inl h
    · exact .inr h
    · exact h.elim
  have hno : ∀ b, b < w.heap.size → R b = none → R' b = none := fun b hb hn => by
    cases hR : R' b with
    | none => rfl
    | some o =>
      rcases hnew _ _ hR with h' | h'
      · rw [hn] at h'; cases h'
      · omega
  refine ⟨R', hp, nx, rs, ρ, .v v, fun _ _ => rfl, Nat.le_refl _, fun l a b => absurd a (by omega), h1, fun b o hb => (hnew b o hb).imp id .inl, ⟨?_, hr.inj, ?_, h3, ?_, hr.wf, ?_, ?_, hr.rpair⟩,
    ⟨h4.os, h4.tape, h4.output, h4.size, fun k hk _ => h4.block k hk (fun h => h)⟩, fun q hq g hg => .inr (.inr ⟨q, hq, hg⟩), h5, trivial, hk R' v h1 h6⟩
  · intro l b hb
    rw [h4.block _ (hr.lt l (hr.wf l b hb).1) (fun h => h)]
    exact hr.blk l b hb
  · intro l hl; exact Nat.lt_of_lt_of_le (hr.lt l hl) h4.size
  · intro l b hb
    exact hno _ (hr.lt l (hr.wf l b hb).1) (hr.dis l b hb)
  · intro r hq
    refine (hr.row r hq).kept (row := none) ⟨h4.os, h4.tape, h4.output, h4.size, fun k hk _ => h4.block k hk (fun h => h)⟩ ?_
    cases hb : r.v.ownBlock with
    | none => exact .inl rfl
    | some g => exact .inr (by simp)
  · intro r hq g hg
    obtain ⟨c1, c2⟩ := hr.rdis r hq g hg
    exact ⟨hno g (row_lt hr hq hg) c1, c2⟩

theorem Own.mono {ρ : Nat → Nat} {nx : Nat} {rs rs' : List Row} (h : ∀ r ∈ rs', r ∈ rs) {b : Nat} (ho : Own ρ nx rs' b) : Own ρ nx rs b :=
  ho.imp id fun ⟨r, hr, hg⟩ => ⟨r, h r hr, hg⟩

/-- Memory in which a row is told of as read-only. -/
theorem pub_rel {R : RO} {hp : List (Nat × HB)} {nx : Nat} {rs : List Row} {ρ : Nat → Nat} {w : World} (hr : HRel R hp nx rs ρ w) {i : Nat} {r : Row} (hi : rs[i]? = some r) :
    ∃ R' : RO, R.le R' ∧ PubRow R' r ∧ HRel R' hp nx (rs.eraseIdx i) ρ w ∧ ∀ b o, R' b = some o → R b = some o ∨ r.blk = some b := by
  have hm := List.mem_of_getElem? hi
  have hsub : ∀ q ∈ rs.eraseIdx i, q ∈ rs := fun q hq => (List.eraseIdx_sublist _ _).subset hq
  cases ha : r.a with
  | none =>
    exact ⟨R, fun _ _ h => h, fun _ a h => (by rw [ha] at h; cases h), ⟨hr.blk, hr.inj, hr.lt, hr.ro, hr.dis, hr.wf, fun q hq => hr.row q (hsub q hq), fun q hq => hr.rdis q (hsub q hq), hr.rpair.sublist (List.eraseIdx_sublist _ _)⟩, fun b o hb => .inl hb⟩
  | some ad =>
    rcases hr.row r hm with ⟨_, hown⟩ | hfrz
    case inr =>
      exact ⟨R, fun _ _ h => h, fun hz => absurd (hfrz.elim (fun f => f.1) fun f => f.1) hz, ⟨hr.blk, hr.inj, hr.lt, hr.ro, hr.dis, hr.wf, fun q hq => hr.row q (hsub q hq), fun q hq => hr.rdis q (hsub q hq), hr.rpair.sublist (List.eraseIdx_sublist _ _)⟩, fun b o hb => .inl hb⟩
    obtain ⟨h1, cur, ⟨fz, h2, _⟩, h3, h4, h5, h6⟩ := row_addr hown ha
    have hb := row_blk ha
    obtain ⟨d1, d2⟩ := hr.rdis r hm _ hb
    let R' : RO := fun b => if b = ad.block then w.heap[b]? else R b
    have hP : R' ad.block = some (.cells cur r.e fz) := by show (if _ then _ else _) = _; rw [if_pos rfl]; exact h2
    have hN : ∀ b, b ≠ ad.block → R' b = R b := fun b hb => if_neg hb
    refine ⟨R', fun b o hbo => ?_, fun _ a h => ?_, ⟨hr.blk, hr.inj, hr.lt, ?_, ?_, hr.wf, fun q hq => hr.row q (hsub q hq), ?_, hr.rpair.sublist (List.eraseIdx_sublist _ _)⟩, fun b o hbo => ?_⟩
    · rw [hN b (fun he => by rw [he, d1] at hbo; cases hbo)]; exact hbo
    · rw [ha] at h; simp only [Option.some.injEq] at h; subst h; exact ⟨h1, cur, ⟨fz, hP⟩, h3, h5, h6⟩
    · intro b o hbo
      by_cases he : b = ad.block
      · subst he; rw [hP] at hbo; rw [← hbo]; exact h2
      · rw [hN b he] at hbo; exact hr.ro b o hbo
    · intro l k hk; rw [hN _ (d2 l k hk)]; exact hr.dis l k hk
    · intro q hq g hg
      obtain ⟨e1, e2⟩ := hr.rdis q (hsub q hq) g hg
      refine ⟨?_, e2⟩
      rw [hN g (fun he => pair_erase (fun a b hab g h1 h2 => hab g h2 h1) hr.rpair hi q hq g hg (by rw [he]; exact hb))]
      exact e1
    · by_cases he : b = ad.block
      · subst he; exact .inr hb
      · rw [hN b he] at hbo; exact .inl hbo

/-- A row of the call's own is told of as read-only memory, ahead of a call. -/
theorem CallP.pub {P : Program} {f : Nat} {args : List SV} {R : RO} {hp : List (Nat × HB)} {nx : Nat} {rs : List Row} {K : RO → List (Nat × HB) → Nat → List Row → SV → Prop} (i : Nat) {r : Row} (hi : rs[i]? = some r)
    (h : ∀ R', R.le R' → PubRow R' r → CallP P f args R' hp nx (rs.eraseIdx i) K) (hf : ∃ g, P.funcs[f]? = some g ∧ g.name ≠ "runtime.NumGoroutine" ∧ g.body.isSome = true) : CallP P f args R hp nx rs K := by
  refine ⟨hf, fun ρ w hr => ?_⟩
  obtain ⟨R1, p1, p2, p3, p4⟩ := pub_rel hr hi
  have hsub : ∀ q ∈ rs.eraseIdx i, q ∈ rs := fun q hq => (List.eraseIdx_sublist _ _).subset hq
  refine ((h R1 p1 p2).go ρ w p3).mono fun e w' ⟨R', hp', nx', rs', ρ', r', q1, q2, q3, q4, q5, q6, q7, qr, q8, q9, q10⟩ => ?_
  refine ⟨R', hp', nx', rs', ρ', r', q1, q2, q3, RO.le_trans p1 q4, fun b o hb => ?_, q6, ⟨q7.os, q7.tape, q7.output, q7.size, fun k hk hn => q7.block k hk fun ho => hn (ho.mono hsub)⟩,
    fun q hq g hg => (qr q hq g hg).imp id (·.mono hsub), q8, q9, q10⟩
  rcases q5 b o hb with h | h | h
  · rcases p4 b o h with h | h
    · exact .inl h
    · exact .inr (.inr (.inr ⟨r, List.mem_of_getElem? hi, h⟩))
  · exact .inr (.inl h)
  · exact .inr (.inr (h.mono hsub))

/-- A call by contract that reads a row of the call's own; the row stays the call's own. -/
theorem RetP.callLend {P : Program} {f : Nat} {vs : List Value} {R : RO} {Φ : Value → Prop} (i : Nat) {r : Row} {rs : List Row} (hi : rs[i]? = some r) (h : ∀ R', R.le R' → PubRow R' r → RetP P f vs R' fun _ v => Φ v)
    {hp : List (Nat × HB)} {nx : Nat} {args : List SV} (ha : args = vs.map .v) {K : RO → List (Nat × HB) → Nat → List Row → SV → Prop} (hk : ∀ v, Φ v → K R hp nx rs (.v v))
    (hf : ∃ g, P.funcs[f]? = some g ∧ g.name ≠ "runtime.NumGoroutine" ∧ g.body.isSome = true) : CallP P f args R hp nx rs K := by
  subst ha
  refine ⟨hf, fun ρ w hr => ?_⟩
  obtain ⟨R1, p1, p2, p3, p4⟩ := pub_rel hr hi
  rw [valL_raw]
  refine ((h R1 p1 p2).go w p3.ro).mono fun e w' ⟨R', v, h1, h2, h3, h4, h5, h6⟩ => ?_
  have hg : w.grownBy w' none := ⟨h4.os, h4.tape, h4.output, h4.size, fun k hk _ => h4.block k hk (fun h => h)⟩
  refine ⟨R, hp, nx, rs, ρ, .v v, fun _ _ => rfl, Nat.le_refl _, fun l a b => absurd a (by omega), fun _ _ h => h, fun b o hb => .inl hb, ⟨?_, hr.inj, ?_, ?_, hr.dis, hr.wf, ?_, hr.rdis, hr.rpair⟩,
    ⟨h4.os, h4.tape, h4.output, h4.size, fun k hk _ => h4.block k hk (fun h => h)⟩, fun q hq g hg => .inr (.inr ⟨q, hq, hg⟩), h5, trivial, hk v h6⟩
  · intro l b hb
    rw [h4.block _ (hr.lt l (hr.wf l b hb).1) (fun h => h)]
    exact hr.blk l b hb
  · intro l hl; exact Nat.lt_of_lt_of_le (hr.lt l hl) h4.size
  · intro b o hb
    have h1 := hr.ro b o hb
    have hlt : b < w.heap.size := by
      rcases Nat.lt_or_ge b w.heap.size with h2 | h2
      · exact h2
      · rw [Array.getElem?_eq_none h2] at h1; cases h1
    rw [h4.block b hlt (fun h => h)]
    exact h1
  · intro q hq
    refine (hr.row q hq).kept hg ?_
    cases hb : q.v.ownBlock with
    | none => exact .inl rfl
    | some g => exact .inr (by simp)

/-- A call by contract, whose answer does not speak of memory. -/
theorem RetP.callQ {P : Program} {f : Nat} {vs : List Value} {R : RO} {Φ : Value → Prop} (h : RetP P f vs R fun _ v => Φ v)
    {hp : List (Nat × HB)} {nx : Nat} {rs : List Row} {args : List SV} (ha : args = vs.map .v) {K : RO → List (Nat × HB) → Nat → List Row → SV → Prop} (hk : ∀ v, Φ v → K R hp nx rs (.v v)) : CallP P f args R hp nx rs K := by
  subst ha
  refine ⟨h.fn, fun ρ w hr => ?_⟩
  rw [valL_raw]
  refine (h.go w hr.ro).mono fun e w' ⟨R', v, h1, h2, h3, h4, h5, h6⟩ => ?_
  have hg : w.grownBy w' none := ⟨h4.os, h4.tape, h4.output, h4.size, fun k hk _ => h4.block k hk (fun h => h)⟩
  refine ⟨R, hp, nx, rs, ρ, .v v, fun _ _ => rfl, Nat.le_refl _, fun l a b => absurd a (by omega), fun _ _ h => h, fun b o hb => .inl hb, ⟨?_, hr.inj, ?_, ?_, hr.dis, hr.wf, ?_, hr.rdis, hr.rpair⟩,
    ⟨h4.os, h4.tape, h4.output, h4.size, fun k hk _ => h4.block k hk (fun h => h)⟩, fun q hq g hg => .inr (.inr ⟨q, hq, hg⟩), h5, trivial, hk v h6⟩
  · intro l b hb
    rw [h4.block _ (hr.lt l (hr.wf l b hb).1) (fun h => h)]
    exact hr.blk l b hb
  · intro l hl; exact Nat.lt_of_lt_of_le (hr.lt l hl) h4.size
  · intro b o hb
    exact h3 b o (h1 b o hb)
  · intro q hq
    refine (hr.row q hq).kept hg ?_
    cases hb : q.v.ownBlock with
    | none => exact .inl rfl
    | some g => exact .inr (by simp)

/-- The row's walk. -/
theorem RetP.walk {P : Program} {f : Nat} {vs : List Value} {w : World} {Ψ : RO → Value → Prop} (h : RetP P f vs (fun b => w.heap[b]?) Ψ) {v : Value} (hv : ∀ R x, Ψ R x → x = v) :
    Calls P f vs.toArray w fun e w' => e = .returned v ∧ Below w.heap.size w w' :=
  (h.go w fun b o hb => hb).mono fun e w' ⟨R', x, h1, h2, h3, h4, h5, h6⟩ => ⟨by rw [h5, hv R' x h6], h4.os, h4.tape, h4.output, h4.size, fun k hk => h4.block k hk (fun h => h)⟩

def AllTy (P : Program) : List (Nat × Ty) → Prop
  | [] => True
  | x :: r => tyOf P x.1 = some x.2 ∧ AllTy P r

theorem tysOk_of {P : Program} : ∀ {l : List (Nat × Ty)}, AllTy P l → TysOk P fun t => find l t
  | [], _ => fun t y h => by simp [find] at h
  | (k, x) :: r, ha => fun t y h => by
    simp only [find_cons] at h
    by_cases he : k = t
    · subst he
      simp at h
      subst h
      exact ha.1
    · simp only [he, if_false] at h
      exact tysOk_of ha.2 t y h

/-- A call whose body is walked in place. -/
theorem callP_in {P P0 : Program} {A : Ar} {f : Nat} {fn : Func} {c : Code} {tys : Nat → Option Ty} {fz : List Nat} {args : List SV} {R : RO} {hp : List (Nat × HB)} {nx : Nat} {rs : List Row} {K : RO → List (Nat × HB) → Nat → List Row → SV → Prop}
    (hP : P = P0) (hA : A = .real) (hf : P0.funcs[f]? = some fn) (hb : fn.body = some c) (hn : fn.name ≠ "runtime.NumGoroutine") (hlen : Nat.ble args.length fn.ntmps = true)
    (hT : TysOk P0 tys) (hl : labL nx args)
    (h : codeVC ⟨P, A, tys, fn.ntmps, fz⟩ c ⟨fr0 0 args, R, hp, nx, rs⟩ (endVC ⟨P, A, tys, fn.ntmps, fz⟩ fn.results.toList fun s r => K s.R s.hp s.nx s.rw_ r)) : CallP P f args R hp nx rs K := by
  subst hP hA
  exact callP_of_vc hf hb hn (Nat.le_of_ble_eq_true hlen) hT hl fun P' A hP hA => by subst hP hA; exact h

theorem br_t {x : Bool} {p q : Unit → Prop} (h : x = true) (h1 : p ()) : (bif x then p else q) () := by subst h; exact h1
theorem br_f {x : Bool} {p q : Unit → Prop} (h : x = false) (h1 : q ()) : (bif x then p else q) () := by subst h; exact h1

theorem br_of {x : Bool} {p q : Unit → Prop} (h1 : x = true → p ()) (h2 : x = false → q ()) : (bif x then p else q) () := by
  cases x with
  | true => exact h1 rfl
  | false => exact h2 rfl
end Go.Se
