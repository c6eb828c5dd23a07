/- The thin package cuts a script into tokens. -/
import Derived.Test.YtinbaelincgemaaTkf
set_option linter.unusedSimpArgs false
set_option linter.unusedVariables false
namespace Go.Proofs.Ytinbaelincgemaa.Tk
open Go Go.Se Go.Proofs Go.Proofs.Ytinbaelincgemaa.Tytok

set_option maxRecDepth 100000 in
theorem copied {P : Program} (hP : P = Try.prog) (R : RO) (a : Option Addr) (n cap : Nat) (xs : List Int) (h : RI R .u8 a n xs) (hn : n ≤ 1000000000000) :
    RetP P 26 [.slice a n cap] R fun R' v => ∃ a' n' c', v = .slice a' n' c' ∧ n' = n ∧ RI R' .u8 a' n' xs := by
  subst hP
  refine retP_vc (fz := []) Try.func26 rfl (by decide) rfl ok26 ?_
  intro P bin cmp cnv neg com bnot beq ofN toN at_ sub_ scmp cat sget ssz ssub elem fld_ hP hA
  conv => cbv
  refine ⟨0, [], _, _, _, n, ints .u8 xs, .own 0 0 _ [] rfl rfl rfl rfl (by decide), .refl _, h.src, by omega, by omega, ?_⟩
  intro a' n' c' zs hn' hz hs
  conv => cbv
  intro ρ R'' hle _ hpr
  exact ⟨a', n', c', rfl, by omega, (hpr _ (List.mem_cons_self ..)).ri (by show n' = _; rw [← h.len]; omega) hs rfl hz h.wf⟩

/-- Bytes behind a slice's cell. -/
def BA (R : RO) (cs : List Value) (xs : List Int) : Prop := ∃ a n c, cs = [.slice a n c] ∧ RI R .u8 a n xs ∧ n ≤ 1000000

theorem BA.le {R R' : RO} (hl : R.le R') (cs : List Value) (x : List Int) (h : BA R cs x) : BA R' cs x :=
  let ⟨a, n, c, h1, h2, h3⟩ := h
  ⟨a, n, c, h1, h2.le hl, h3⟩

/-- Where tokens end. -/
def EndsOk (l : List Tok) (p : Nat) (es : List Int) : Prop := es.length = l.length ∧ ∀ i, i < l.length → es.getD i 0 = if i + 1 < l.length then (l.map fun t => (t.pos : Int)).getD (i + 1) 0 else (p : Int)

theorem EndsOk.snoc {l : List Tok} {p : Nat} {es : List Int} {t : Tok} {q : Nat} (h : EndsOk l p es) (ht : t.pos = p) : EndsOk (l ++ [t]) q (es ++ [(q : Int)]) := by
  obtain ⟨h1, h2⟩ := h
  refine ⟨by simp [h1], fun i hi => ?_⟩
  simp only [List.length_append, List.length_singleton] at hi ⊢
  by_cases hl : i < l.length
  · have h3 := h2 i hl
    rw [if_pos (by omega)]
    have e1 : (es ++ [(q : Int)]).getD i 0 = es.getD i 0 := by simp only [List.getD_eq_getElem?_getD]; rw [List.getElem?_append_left (by omega)]
    rw [e1, h3]
    split
    · rename_i hx
      simp only [List.getD_eq_getElem?_getD, List.map_append]
      rw [List.getElem?_append_left (by simp; omega)]
    · have : i + 1 = l.length := by omega
      simp only [List.getD_eq_getElem?_getD, List.map_append]
      rw [List.getElem?_append_right (by simp; omega)]
      simp [this, ht]
  · have : i = l.length := by omega
    rw [if_neg (by omega)]
    simp only [List.getD_eq_getElem?_getD]
    rw [List.getElem?_append_right (by omega), this, h1]
    simp

theorem Toks.ops {xs : List Int} {l : List Tok} {p : Nat} (h : Toks xs l p) : ∀ t ∈ l, t.op ∈ xs := by
  induction h with
  | nil => intro t ht; cases ht
  | snoc h ho hs ih =>
    intro t ht
    rcases List.mem_append.1 ht with ht | ht
    · exact ih t ht
    · simp at ht
      subst ht
      exact List.mem_of_getElem? ho

theorem wfi {x : Int} (h0 : 0 ≤ x) (h1 : x ≤ 1000000) : (Lit.int .i64 x).wf = true := by
  simp [Lit.wf, IntKind.min, IntKind.max, IntKind.bits, IntKind.signed]
  omega

structure Lq where
  R : RO
  off : Int
  pos : Int
  op : Value
  d : Value
  a1 : Option Addr
  n1 : Nat
  c1 : Nat
  z1 : List Value
  a2 : Option Addr
  n2 : Nat
  c2 : Nat
  z2 : List Value
  a3 : Option Addr
  n3 : Nat
  c3 : Nat
  z3 : List Value

/-- What is known in the loop. -/
structure Fq (R : RO) (xs : List Int) (k : Nat) (x : Lq) (p : Nat) (l : List Tok) (es : List Int) : Prop where
  off : x.off = p
  le : p ≤ xs.length
  k : k = xs.length - p
  t : Toks xs l p
  R : R.le x.R
  pos : -1 ≤ x.pos
  pos2 : x.pos < p
  ov : ∀ cs, x.op ≠ .agg cs
  dv : ∀ cs, x.d ≠ .agg cs
  e : EndsOk l p es
  ew : ∀ y ∈ es, 0 ≤ y ∧ y ≤ 1000000
  n1 : x.n1 = l.length
  z1 : x.z1 = ints .i64 (l.map Tok.op)
  s1 : x.n1 ≠ 0 → x.a1.isSome = true
  n2 : x.n2 = l.length
  z2 : Each BA x.R x.z2 (l.map Tok.data)
  s2 : x.n2 ≠ 0 → x.a2.isSome = true
  n3 : x.n3 = es.length
  z3 : x.z3 = ints .i64 es
  s3 : x.n3 ≠ 0 → x.a3.isSome = true




set_option maxRecDepth 100000 in
set_option maxHeartbeats 4000000 in
theorem thinTokens {P : Program} (hP : P = Try.prog) (hOp : OpSpec Try.prog) (R : RO) (a : Option Addr) (n c : Nat) (xs : List Int) (h : RI R .u8 a n xs) (hn : n ≤ 100000) (hc : n ≤ c) :
    RetP P 18 [.slice a n c] R fun R' v => ∃ a1 n1 c1 a2 n2 c2 a3 n3 c3 kind l p es, v = .tuple #[.slice a1 n1 c1, .slice a2 n2 c2, .slice a3 n3 c3, .int .i64 kind] ∧ Toks xs l p ∧ EndsOk l p es ∧
      RI R' .i64 a1 n1 (l.map Tok.op) ∧ LAt R' 1 BA a2 n2 c2 (l.map Tok.data) ∧ RI R' .i64 a3 n3 es ∧ ((kind = 0 ∧ p = xs.length) ∨ (kind ≠ 0 ∧ p < xs.length ∧ stepT (xs.drop p) = none)) := by
  subst hP
  have hl := h.len
  refine retP_vc (fz := []) Try.func18 rfl (by decide) rfl ok18 ?_
  intro P bin cmp cnv neg com bnot beq ofN toN at_ sub_ scmp cat sget ssz ssub elem fld_ hP hA
  conv => cbv
  have hOp' : OpSpec P := by rw [hP]; exact hOp
  refine callP_in (fz := []) hP hA Try.func35 rfl (by decide) rfl ok35 (by simp [labL, lab]) ?_
  conv => cbv
  refine br_f (by rw [cmp_neq hA]; rfl) ?_
  conv => cbv
  refine ⟨Bool × Lq, fun x => match x with
      | (false, y) => ⟨[(6, .p 1 0), (2, .v (.slice none 0 0)), (3, .v (.slice none 0 0)), (4, .v (.slice none 0 0))], y.R, [(1, ⟨79, [.v (.slice a n c), .v (.int .u16 0), .v (.int .i32 y.off), .v (.int .i32 y.pos), .v y.op, .v y.d, .v .nilIface]⟩)], 2, []⟩
      | (true, y) => ⟨[(6, .p 1 0), (2, .v (.slice y.a1 y.n1 y.c1)), (3, .v (.slice y.a2 y.n2 y.c2)), (4, .v (.slice y.a3 y.n3 y.c3))], y.R, [(1, ⟨79, [.v (.slice a n c), .v (.int .u16 0), .v (.int .i32 y.off), .v (.int .i32 y.pos), .v y.op, .v y.d, .v .nilIface]⟩)], 2,
        [⟨y.a3, y.n3, y.c3, 3, 1, y.z3⟩, ⟨y.a2, y.n2, y.c2, 22, 1, y.z2⟩, ⟨y.a1, y.n1, y.c1, 3, 1, y.z1⟩]⟩,
    fun k x => ∃ (p : Nat) (l : List Tok) (es : List Int), Fq R xs k x.2 p l es ∧ (x.1 = false → l = []),
    ⟨xs.length, (false, ⟨R, 0, -1, .pointer none, .slice none 0 0, none, 0, 0, [], none, 0, 0, [], none, 0, 0, []⟩), ⟨⟨rfl, rfl, rfl, rfl, trivial⟩, rfl, ⟨rfl, trivial⟩, rfl, .refl _⟩, 0, [], [],
      ⟨rfl, Nat.zero_le _, rfl, .nil, RO.le_refl _, Int.le_refl (-1), (by decide : (-1 : Int) < ((0 : Nat) : Int)), fun cs h => (by cases h), fun cs h => (by cases h), ⟨rfl, fun i hi => absurd hi (by simp)⟩, fun y hy => (by cases hy), rfl, rfl, fun h => absurd rfl h, rfl, Each.nil, fun h => absurd rfl h, rfl, rfl, fun h => absurd rfl h⟩, fun _ => rfl⟩, ?_⟩
  rintro k ⟨b, R1, off, pos, opv, dv, a1, n1, c1, z1, a2, n2, c2, z2, a3, n3, c3, z3⟩ ⟨p, l, es, f, hf0⟩
  have hoff := f.off
  have hlep := f.le
  simp only at hoff
  cases b with
  | false =>
    obtain rfl : l = [] := hf0 rfl
    have hes : es = [] := List.eq_nil_of_length_eq_zero f.e.1
    subst hes
    have hN1 : 0 = ([] : List Tok).length := rfl
    have hN2 : 0 = ([] : List Tok).length := rfl
    have hN3 : 0 = ([] : List Int).length := rfl
    have hZ1 : [] = ints .i64 (([] : List Tok).map Tok.op) := rfl
    have hZ2 : Each BA R1 [] (([] : List Tok).map Tok.data) := Each.nil
    have hZ3 : [] = ints .i64 [] := rfl
    conv => cbv
    refine CallP.lend (next hP hOp' R1 a n c xs (h.le f.R) hn hc p off pos f.off f.le ⟨f.pos, f.pos2⟩ opv dv f.ov f.dv) rfl rfl ?_
    intro R2 hp' nx' rs' r hR2 hout
    rcases hout () with ⟨op, d, k', ad, s, a7, n7, c7, off', hx, hst, rfl, ho, hf, hcc, h7, -⟩ | ⟨off', pos', op, d, er, rfl, hf, hend⟩
    case inr =>
      refine ⟨_, _, _, hf, rfl, rfl, ?_⟩
      conv => cbv
      refine callP_in (fz := []) hP hA Try.func41 rfl (by decide) rfl ok41 (by simp [labL, lab]) ?_
      conv => cbv
      rcases hend with ⟨hpe, rfl⟩ | ⟨hpl, hst, s, rfl⟩
      · conv => cbv
        refine callP_in (fz := []) hP hA Try.func40 rfl (by decide) rfl ok40 (by simp [labL, lab]) ?_
        conv => cbv
        intro ρ R'' hle _ hpr
        have hR3 := RO.le_trans hR2 hle
        refine ⟨_, _, _, _, _, _, _, _, _, _, _, p, _, rfl, f.t, f.e, ?_, ?_, ?_, .inl ⟨rfl, hpe⟩⟩
        · exact RI.nil
        · exact LAt.nil
        · exact RI.nil
      · conv => cbv
        refine callP_in (fz := []) hP hA Try.func40 rfl (by decide) rfl ok40 (by simp [labL, lab]) ?_
        conv => cbv
        intro ρ R'' hle _ hpr
        have hR3 := RO.le_trans hR2 hle
        refine ⟨_, _, _, _, _, _, _, _, _, _, _, p, _, rfl, f.t, f.e, ?_, ?_, ?_, .inr ⟨?_, hpl, hst⟩⟩
        · exact RI.nil
        · exact LAt.nil
        · exact RI.nil
        · show bin .add .i64 27 1 ≠ 0
          rw [add_i64 hA (by omega)]
          decide
    refine ⟨_, _, _, hf, rfl, rfl, ?_⟩
    conv => cbv
    have hto := f.t.snoc hx hst
    have hle := hto.le
    have hks := stepT_le hst
    have hop := wf_u8 (h.wf op (List.mem_of_getElem? hx))
    have hdl : (xs.drop p).length = xs.length - p := by simp
    have hl7 := h7.len
    refine callP_in (fz := []) hP hA Try.func37 rfl (by decide) rfl ok37 (by simp [labL, lab]) ?_
    conv => cbv
    refine ld_at hA hcc 0 rfl ?_
    conv => cbv
    have e1 : cnv .i64 op = op := cnv_i64 hA (by omega)
    refine ⟨0, [], _, _, _, 1, [.int .i64 (cnv .i64 op)], .nil, .refl _, .own _ _ _ _ _ _ rfl rfl rfl (by simp [Value.oneCell']), by omega, by omega, ?_⟩
    intro a4 n4 c4 z4 hn4 hz4 hs4
    conv => cbv
    refine callP_in (fz := []) hP hA Try.func38 rfl (by decide) rfl ok38 (by simp [labL, lab]) ?_
    conv => cbv
    refine (copied hP R2 a7 n7 c7 d h7 (by omega)).callP rfl ?_
    rintro R3 _ hR3 ⟨a8, n8, c8, rfl, hn8, h8⟩
    conv => cbv
    refine ⟨0, [], _, _, _, 1, [.slice a8 n8 c8], .nil, .refl _, .own _ _ _ _ _ _ rfl rfl rfl (by simp [Value.oneCell']), by omega, by omega, ?_⟩
    intro a5 n5 c5 z5 hn5 hz5 hs5
    conv => cbv
    refine callP_in (fz := []) hP hA Try.func39 rfl (by decide) rfl ok39 (by simp [labL, lab]) ?_
    conv => cbv
    have e2 : cnv .i64 off' = off' := cnv_i64 hA (by omega)
    refine ⟨0, [], _, _, _, 1, [.int .i64 (cnv .i64 off')], .nil, .refl _, .own _ _ _ _ _ _ rfl rfl rfl (by simp [Value.oneCell']), by omega, by omega, ?_⟩
    intro a6 n6 c6 z6 hn6 hz6 hs6
    conv => cbv
    refine ⟨xs.length - (p + k'), (true, ⟨R3, off', pos + 1, .pointer (some ad), .slice a7 n7 c7, a4, n4, c4, z4, a5, n5, c5, z5, a6, n6, c6, z6⟩), by have := f.k; omega, ⟨⟨rfl, rfl, rfl, rfl, trivial⟩, rfl, ⟨rfl, trivial⟩, rfl, .refl _⟩, p + k', ([] : List Tok) ++ [⟨op, d, p⟩], ([] : List Int) ++ [((p + k' : Nat) : Int)], ?_, fun hb => (by cases hb)⟩
    have hpos : -1 ≤ pos := f.pos
    have hpos2 : pos < p := f.pos2
    refine ⟨ho, by omega, rfl, hto, RO.le_trans f.R (RO.le_trans hR2 hR3), by show -1 ≤ pos + 1; omega, by show pos + 1 < ((p + k' : Nat) : Int); omega, fun cs h => (by cases h), fun cs h => (by cases h), f.e.snoc rfl, ?_, ?_, ?_, hs4, ?_, ?_, hs5, ?_, ?_, hs6⟩
    · intro y hy
      rcases List.mem_append.1 hy with hy | hy
      · exact f.ew y hy
      · simp at hy
        omega
    · show n4 = _
      rw [hn4, List.length_append, ← hN1]
      rfl
    · show z4 = _
      rw [hz4, hZ1, e1, List.map_append, ← ints_app]
      rfl
    · show n5 = _
      rw [hn5, List.length_append, ← hN2]
      rfl
    · show Each BA R3 z5 _
      rw [hz5, List.map_append]
      exact (hZ2.le fun _ _ h => BA.le (RO.le_trans hR2 hR3) _ _ h).app ⟨a8, n8, c8, rfl, h8, by omega⟩
    · show n6 = _
      rw [hn6, List.length_append, ← hN3]
      rfl
    · show z6 = _
      rw [hz6, hZ3, e2, ho, ← ints_app]
      rfl
  | true =>
    have hN1 : n1 = l.length := f.n1
    have hN2 : n2 = l.length := f.n2
    have hN3 : n3 = es.length := f.n3
    have hZ1 : z1 = ints .i64 (l.map Tok.op) := f.z1
    have hZ2 : Each BA R1 z2 (l.map Tok.data) := f.z2
    have hZ3 : z3 = ints .i64 es := f.z3
    have hle0 := f.t.le
    have hes := f.e.1
    have hwo : ∀ y ∈ l.map Tok.op, (Lit.int .i64 y).wf = true := fun y hy => by
      obtain ⟨t, ht, rfl⟩ := List.mem_map.1 hy
      have := wf_u8 (h.wf _ (f.t.ops t ht))
      exact wfi (by omega) (by omega)
    conv => cbv
    refine CallP.lend (next hP hOp' R1 a n c xs (h.le f.R) hn hc p off pos f.off f.le ⟨f.pos, f.pos2⟩ opv dv f.ov f.dv) rfl rfl ?_
    intro R2 hp' nx' rs' r hR2 hout
    rcases hout () with ⟨op, d, k', ad, s, a7, n7, c7, off', hx, hst, rfl, ho, hf, hcc, h7, -⟩ | ⟨off', pos', op, d, er, rfl, hf, hend⟩
    case inr =>
      refine ⟨_, _, _, hf, rfl, rfl, ?_⟩
      conv => cbv
      refine callP_in (fz := []) hP hA Try.func41 rfl (by decide) rfl ok41 (by simp [labL, lab]) ?_
      conv => cbv
      rcases hend with ⟨hpe, rfl⟩ | ⟨hpl, hst, s, rfl⟩
      · conv => cbv
        refine callP_in (fz := []) hP hA Try.func40 rfl (by decide) rfl ok40 (by simp [labL, lab]) ?_
        conv => cbv
        intro ρ R'' hle _ hpr
        have hR3 := RO.le_trans hR2 hle
        refine ⟨_, _, _, _, _, _, _, _, _, _, _, p, _, rfl, f.t, f.e, ?_, ?_, ?_, .inl ⟨rfl, hpe⟩⟩
        · exact (hpr _ (List.mem_cons_of_mem _ (List.mem_cons_of_mem _ (List.mem_cons_self ..)))).ri (r := ⟨a1, n1, c1, 3, 1, z1⟩) (by show n1 = _; simp; omega) f.s1 rfl hZ1 hwo
        · exact (hpr _ (List.mem_cons_of_mem _ (List.mem_cons_self ..))).lat (r := ⟨a2, n2, c2, 22, 1, z2⟩) (by show n2 = _; simp; omega) f.s2 rfl (hZ2.le fun _ _ h => BA.le hR3 _ _ h) (by show n2 ≤ maxLen; unfold maxLen; omega)
        · exact (hpr _ (List.mem_cons_self ..)).ri (r := ⟨a3, n3, c3, 3, 1, z3⟩) hN3 f.s3 rfl hZ3 (fun y hy => wfi (f.ew y hy).1 (f.ew y hy).2)
      · conv => cbv
        refine callP_in (fz := []) hP hA Try.func40 rfl (by decide) rfl ok40 (by simp [labL, lab]) ?_
        conv => cbv
        intro ρ R'' hle _ hpr
        have hR3 := RO.le_trans hR2 hle
        refine ⟨_, _, _, _, _, _, _, _, _, _, _, p, _, rfl, f.t, f.e, ?_, ?_, ?_, .inr ⟨?_, hpl, hst⟩⟩
        · exact (hpr _ (List.mem_cons_of_mem _ (List.mem_cons_of_mem _ (List.mem_cons_self ..)))).ri (r := ⟨a1, n1, c1, 3, 1, z1⟩) (by show n1 = _; simp; omega) f.s1 rfl hZ1 hwo
        · exact (hpr _ (List.mem_cons_of_mem _ (List.mem_cons_self ..))).lat (r := ⟨a2, n2, c2, 22, 1, z2⟩) (by show n2 = _; simp; omega) f.s2 rfl (hZ2.le fun _ _ h => BA.le hR3 _ _ h) (by show n2 ≤ maxLen; unfold maxLen; omega)
        · exact (hpr _ (List.mem_cons_self ..)).ri (r := ⟨a3, n3, c3, 3, 1, z3⟩) hN3 f.s3 rfl hZ3 (fun y hy => wfi (f.ew y hy).1 (f.ew y hy).2)
        · show bin .add .i64 27 1 ≠ 0
          rw [add_i64 hA (by omega)]
          decide
    refine ⟨_, _, _, hf, rfl, rfl, ?_⟩
    conv => cbv
    have hto := f.t.snoc hx hst
    have hle := hto.le
    have hks := stepT_le hst
    have hop := wf_u8 (h.wf op (List.mem_of_getElem? hx))
    have hdl : (xs.drop p).length = xs.length - p := by simp
    have hl7 := h7.len
    refine callP_in (fz := []) hP hA Try.func37 rfl (by decide) rfl ok37 (by simp [labL, lab]) ?_
    conv => cbv
    refine ld_at hA hcc 0 rfl ?_
    conv => cbv
    have e1 : cnv .i64 op = op := cnv_i64 hA (by omega)
    refine ⟨n1, z1, _, _, _, 1, [.int .i64 (cnv .i64 op)], (.row 2 ⟨a1, n1, c1, 3, 1, z1⟩ rfl rfl rfl), .refl _, .own _ _ _ _ _ _ rfl rfl rfl (by simp [Value.oneCell']), by omega, by omega, ?_⟩
    intro a4 n4 c4 z4 hn4 hz4 hs4
    conv => cbv
    refine callP_in (fz := []) hP hA Try.func38 rfl (by decide) rfl ok38 (by simp [labL, lab]) ?_
    conv => cbv
    refine (copied hP R2 a7 n7 c7 d h7 (by omega)).callP rfl ?_
    rintro R3 _ hR3 ⟨a8, n8, c8, rfl, hn8, h8⟩
    conv => cbv
    refine ⟨n2, z2, _, _, _, 1, [.slice a8 n8 c8], (.row 2 ⟨a2, n2, c2, 22, 1, z2⟩ rfl rfl rfl), .refl _, .own _ _ _ _ _ _ rfl rfl rfl (by simp [Value.oneCell']), by omega, by omega, ?_⟩
    intro a5 n5 c5 z5 hn5 hz5 hs5
    conv => cbv
    refine callP_in (fz := []) hP hA Try.func39 rfl (by decide) rfl ok39 (by simp [labL, lab]) ?_
    conv => cbv
    have e2 : cnv .i64 off' = off' := cnv_i64 hA (by omega)
    refine ⟨n3, z3, _, _, _, 1, [.int .i64 (cnv .i64 off')], (.row 2 ⟨a3, n3, c3, 3, 1, z3⟩ rfl rfl rfl), .refl _, .own _ _ _ _ _ _ rfl rfl rfl (by simp [Value.oneCell']), by omega, by omega, ?_⟩
    intro a6 n6 c6 z6 hn6 hz6 hs6
    conv => cbv
    refine ⟨xs.length - (p + k'), (true, ⟨R3, off', pos + 1, .pointer (some ad), .slice a7 n7 c7, a4, n4, c4, z4, a5, n5, c5, z5, a6, n6, c6, z6⟩), by have := f.k; omega, ⟨⟨rfl, rfl, rfl, rfl, trivial⟩, rfl, ⟨rfl, trivial⟩, rfl, .refl _⟩, p + k', l ++ [⟨op, d, p⟩], es ++ [((p + k' : Nat) : Int)], ?_, fun hb => (by cases hb)⟩
    have hpos : -1 ≤ pos := f.pos
    have hpos2 : pos < p := f.pos2
    refine ⟨ho, by omega, rfl, hto, RO.le_trans f.R (RO.le_trans hR2 hR3), by show -1 ≤ pos + 1; omega, by show pos + 1 < ((p + k' : Nat) : Int); omega, fun cs h => (by cases h), fun cs h => (by cases h), f.e.snoc rfl, ?_, ?_, ?_, hs4, ?_, ?_, hs5, ?_, ?_, hs6⟩
    · intro y hy
      rcases List.mem_append.1 hy with hy | hy
      · exact f.ew y hy
      · simp at hy
        omega
    · show n4 = _
      rw [hn4, List.length_append, ← hN1]
      rfl
    · show z4 = _
      rw [hz4, hZ1, e1, List.map_append, ← ints_app]
      rfl
    · show n5 = _
      rw [hn5, List.length_append, ← hN2]
      rfl
    · show Each BA R3 z5 _
      rw [hz5, List.map_append]
      exact (hZ2.le fun _ _ h => BA.le (RO.le_trans hR2 hR3) _ _ h).app ⟨a8, n8, c8, rfl, h8, by omega⟩
    · show n6 = _
      rw [hn6, List.length_append, ← hN3]
      rfl
    · show z6 = _
      rw [hz6, hZ3, e2, ho, ← ints_app]
      rfl
end Go.Proofs.Ytinbaelincgemaa.Tk
