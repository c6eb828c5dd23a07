/- The evaluator: functions that hand a new row on to their caller. -/
import Derived.Test.YtepfbdfbfimefaaDoorSy
set_option linter.unusedSimpArgs false
set_option linter.unusedVariables false
namespace Go.Se
open Go

/-- The answer is a slice of the call's own (or nil). -/
def IsRow (e sz : Nat) (hp : List (Nat × HB)) (rs : List Row) (r : SV) (Φ : Nat → List Value → Prop) : Prop :=
  (r = .v (.slice none 0 0) ∧ Φ 0 []) ∨
  (∃ q ∈ rs, r = .v (.slice q.a q.n q.cap) ∧ q.e = e ∧ q.sz = sz ∧ Φ q.n q.xs) ∨
  (∃ l n b xs, r = .se l 0 n n ∧ find hp l = some b ∧ b.ty = e ∧ rawL b.cs = some xs ∧ xs.length = n * sz ∧ n ≤ 4611686018427387904 ∧ Φ n xs)

/-- What a function answers: a new row, which is its caller's from then on. -/
structure RowP (P : Program) (f : Nat) (vs : List Value) (R : RO) (e sz : Nat) (Φ : Nat → List Value → Prop) : Prop where
  go : CallP P f (vs.map .v) R [] 0 [] fun _ hp' _ rs' r => ∀ _ : Unit, IsRow e sz hp' rs' r Φ

theorem RowP.call {P : Program} {f : Nat} {vs : List Value} {R : RO} {e sz : Nat} {Φ : Nat → List Value → Prop} (h : RowP P f vs R e sz Φ)
    {hp : List (Nat × HB)} {nx : Nat} {rs : List Row} {args : List SV} (ha : args = vs.map .v) {K : RO → List (Nat × HB) → Nat → List Row → SV → Prop}
    (hk : ∀ a n c zs rs', Base1 rs' rs a n c e sz zs → (n ≠ 0 → a.isSome = true) → Φ n zs → K R hp nx rs' (.v (.slice a n c))) (h4 : sz ≠ 4096 := by decide) : CallP P f args R hp nx rs K := by
  subst ha
  refine ⟨h.go.fn, fun ρ w hr => ?_⟩
  rw [valL_raw]
  have hg := h.go.go (fun _ => 0) w ⟨fun l b hf => by simp [find] at hf, fun l _ hl => absurd hl (by omega), fun l hl => absurd hl (by omega), hr.ro,
    fun l b hf => by simp [find] at hf, fun l b hf => by simp [find] at hf, fun r hr => by simp at hr, fun r hr => by simp at hr, List.Pairwise.nil⟩
  rw [valL_raw] at hg
  refine hg.mono fun ee w' ⟨R', hp', nx', rs', ρ', r, q1, q2, q3, q4, q5, q6, q7, qr, q8, q9, q10⟩ => ?_
  have hown : ∀ b, ¬ Own (fun _ => 0) 0 [] b := fun b hb => by
    rcases hb with ⟨l, hl, _⟩ | ⟨r, hr, _⟩
    · omega
    · simp at hr
  have hgr : w.grownBy w' none := ⟨q7.os, q7.tape, q7.output, q7.size, fun k hk _ => q7.block k hk (hown k)⟩
  have keep : Keep (Own ρ nx rs) w w' := ⟨q7.os, q7.tape, q7.output, q7.size, fun k hk _ => q7.block k hk (hown k)⟩
  have rows : ∀ q ∈ rs, RowOk w' q := fun q hq => by
    refine (hr.row q hq).kept hgr ?_
    cases hb : q.v.ownBlock with
    | none => exact .inl rfl
    | some g => exact .inr (by simp)
  have blks : ∀ l b, find hp l = some b → w'.heap[ρ l]? = some (.cells (valL ρ b.cs).toArray b.ty (0, 0)) := fun l b hb => by
    rw [q7.block _ (hr.lt l (hr.wf l b hb).1) (hown _)]
    exact hr.blk l b hb
  have ros : ∀ b o, R b = some o → w'.heap[b]? = some o := fun b o hb => q6.ro b o (q4 b o hb)
  have old : HRel R hp nx rs ρ w' := ⟨blks, hr.inj, fun l hl => Nat.lt_of_lt_of_le (hr.lt l hl) q7.size, ros, hr.dis, hr.wf, rows, hr.rdis, hr.rpair⟩
  have hlt : ∀ b o, R b = some o → b < w.heap.size := fun b o hb => by
    have h1 := hr.ro b o hb
    rcases Nat.lt_or_ge b w.heap.size with h2 | h2
    · exact h2
    · rw [Array.getElem?_eq_none h2] at h1; cases h1
  -- a new row
  have fin : ∀ q : Row, q.e = e → q.sz = sz → w'.ownsRowG 0 q.e q.sz q.v q.n q.xs → (∀ g, q.blk = some g → w.heap.size ≤ g) → Φ q.n q.xs → ee = .returned q.v →
      ∃ R' hp' nx' rs' ρ' r, (∀ l, l < nx → ρ' l = ρ l) ∧ nx ≤ nx' ∧ (∀ l, nx ≤ l → l < nx' → w.heap.size ≤ ρ' l) ∧ R.le R' ∧ RO.fresh w (Own ρ nx rs) R R' ∧ HRel R' hp' nx' rs' ρ' w' ∧ Keep (Own ρ nx rs) w w' ∧
      (∀ q ∈ rs', ∀ g, q.blk = some g → w.heap.size ≤ g ∨ Own ρ nx rs g) ∧ ee = .returned (val ρ' r) ∧ lab nx' r ∧ K R' hp' nx' rs' r := by
    intro q he hz ho hn hΦ hee
    refine ⟨R, hp, nx, q :: rs, ρ, .v q.v, fun _ _ => rfl, Nat.le_refl _, fun l a b => absurd a (by omega), fun _ _ h => h, fun b o hb => .inl hb, ?_, keep, ?_, hee, trivial, ?_⟩
    · refine ⟨blks, hr.inj, old.lt, ros, hr.dis, hr.wf, ?_, ?_, ?_⟩
      · intro p hp
        rcases List.mem_cons.1 hp with rfl | hp
        · exact .inl ⟨by rw [hz]; exact h4, ho⟩
        · exact rows p hp
      · intro p hp g hg
        rcases List.mem_cons.1 hp with rfl | hp
        · have := hn g hg
          refine ⟨?_, fun l b hb => ?_⟩
          · cases hR : R g with
            | none => rfl
            | some o => have := hlt g o hR; omega
          · have := hr.lt l (hr.wf l b hb).1
            omega
        · exact hr.rdis p hp g hg
      · refine List.pairwise_cons.2 ⟨fun p hp g hg hpg => ?_, hr.rpair⟩
        have h1 := hn g hg
        have h2 := row_lt hr hp hpg
        omega
    · intro p hp g hg
      rcases List.mem_cons.1 hp with rfl | hp
      · exact .inl (hn g hg)
      · exact .inr (.inr ⟨p, hp, hg⟩)
    · obtain ⟨a, n, c, e', sz', xs⟩ := q
      subst he hz
      obtain ⟨ad, cap, hv, hs⟩ := row_of_owns ho
      simp only [Row.v, Value.slice.injEq] at hv
      exact hk a n c xs _ Base1.row (by rw [hv.1]; exact hs) hΦ
  rcases q10 () with ⟨rfl, hΦ⟩ | ⟨q, hq, rfl, he, hz, hΦ⟩ | ⟨l, n, b, xs, rfl, hb, he, hn, hl, h63, hΦ⟩
  · exact ⟨R, hp, nx, rs, ρ, .v (.slice none 0 0), fun _ _ => rfl, Nat.le_refl _, fun l a b => absurd a (by omega), fun _ _ h => h, fun b o hb => .inl hb, old, keep,
      fun q hq g hg => .inr (.inr ⟨q, hq, hg⟩), q8, trivial, hk none 0 0 [] rs Base1.nil (fun h => absurd rfl h) hΦ⟩
  · refine fin q he hz ((q6.row q hq).own (by rw [hz]; exact h4)) (fun g hg => ?_) hΦ q8
    rcases qr q hq g hg with h | h
    · exact h
    · exact absurd h (hown g)
  · have h1 := q6.blk l b hb
    obtain ⟨h2, h3⟩ := q6.wf l b hb
    rw [rawL_val hn] at h1
    refine fin ⟨some ⟨ρ' l, 0, none⟩, n, n, e, sz, xs⟩ rfl rfl ⟨hl, .inr ⟨ρ' l, n, xs.toArray, rfl, Nat.zero_le _, ⟨(0, 0), by rw [h1, he], un0 _⟩, Nat.le_refl _, by simp [maxLen]; omega, by simp [hl], by simp [← hl]⟩⟩ (fun g hg => ?_) hΦ q8
    obtain rfl : ρ' l = g := by simpa [Row.blk, Row.v, Value.ownBlock] using hg
    exact q3 l (Nat.zero_le _) h2

/-- A row's contract, by the body. -/
theorem rowP_vc {P : Program} {f : Nat} {fn : Func} {c : Code} {tys : Nat → Option Ty} {fz : List Nat} {vs : List Value} {R : RO} {e sz : Nat} {Φ : Nat → List Value → Prop}
    (hf : P.funcs[f]? = some fn) (hb : fn.body = some c) (hn : fn.name ≠ "runtime.NumGoroutine") (hlen : Nat.ble vs.length fn.ntmps = true) (hT : TysOk P tys)
    (h : ∀ (P' : Program) (bin cmp cnv neg com bnot beq ofN toN at_ sub_ scmp cat sget ssz ssub elem fld_), P' = P → (⟨bin, cmp, cnv, neg, com, bnot, beq, ofN, toN, at_, sub_, scmp, cat, sget, ssz, ssub, elem, fld_⟩ : Ar) = Ar.real → codeVC ⟨P', ⟨bin, cmp, cnv, neg, com, bnot, beq, ofN, toN, at_, sub_, scmp, cat, sget, ssz, ssub, elem, fld_⟩, tys, fn.ntmps, fz⟩ c ⟨fr0 0 (vs.map .v), R, [], 0, []⟩
      (endVC ⟨P', ⟨bin, cmp, cnv, neg, com, bnot, beq, ofN, toN, at_, sub_, scmp, cat, sget, ssz, ssub, elem, fld_⟩, tys, fn.ntmps, fz⟩ fn.results.toList fun s r => ∀ _ : Unit, IsRow e sz s.hp s.rw_ r Φ)) : RowP P f vs R e sz Φ :=
  ⟨callP_of_vc hf hb hn (by simpa using Nat.le_of_ble_eq_true hlen) hT (by rw [labL_iff]; intro x hx; obtain ⟨v, _, rfl⟩ := List.mem_map.1 hx; trivial) fun P' ⟨bin1, cmp1, cnv1, neg1, com1, bnot1, beq1, ofN1, toN1, at_1, sub_1, scmp1, cat1, sget1, ssz1, ssub1, elem1, fld_1⟩ hP hA => h P' bin1 cmp1 cnv1 neg1 com1 bnot1 beq1 ofN1 toN1 at_1 sub_1 scmp1 cat1 sget1 ssz1 ssub1 elem1 fld_1 hP hA⟩

/-- A row of the call's own that is what is appended. -/
theorem src_row {fr : List (Nat × SV)} {R : RO} {hp : List (Nat × HB)} {nx : Nat} {rs : List Row} {r : Row} (hm : r ∈ rs) (hs : r.n ≠ 0 → r.a.isSome = true) (hl : r.xs.length = r.n * r.sz) (h1 : ∀ v ∈ r.xs, v.oneCell' = true) :
    SrcK ⟨fr, R, hp, nx, rs⟩ r.sz (.v (.slice r.a r.n r.cap)) r.n r.xs := by
  cases ha : r.a with
  | none =>
    have hn : r.n = 0 := by
      rcases Nat.eq_zero_or_pos r.n with h | h
      · exact h
      · have := hs (by omega); rw [ha] at this; cases this
    rw [hn] at hl ⊢
    have : r.xs = [] := List.eq_nil_of_length_eq_zero (by simpa using hl)
    rw [this]
    exact .nil _
  | some ad => exact .raw ad _ _ _ hl (fun j v hv => .inr ⟨r, hm, ad, j, ha, rfl, hv⟩) h1

/-- Two slices, the newer one is appended to the elder one, and given up. -/
theorem Base1.base2 {rs1 rs2 rest : List Row} {a b : Option Addr} {n c e sz m d e2 sz2 : Nat} {zs ys : List Value} (h : Base1 rs1 rest a n c e sz zs) (h2 : Base1 rs2 rs1 b m d e2 sz2 ys) :
    ∃ rs0, (∀ fr R hp nx, BaseK ⟨fr, R, hp, nx, rs2⟩ e sz (.v (.slice a n c)) n zs hp rs0) ∧ rest.Sublist rs0 := by
  rcases h with ⟨rfl, rfl, rfl, rfl, rfl⟩ | rfl
  · refine ⟨_, fun _ _ _ _ => .nil, ?_⟩
    rcases h2 with ⟨_, _, _, _, rfl⟩ | rfl
    · exact .refl _
    · exact .cons _ (.refl _)
  · rcases h2 with ⟨_, _, _, _, rfl⟩ | rfl
    · exact ⟨_, fun _ _ _ _ => .row 0 ⟨a, n, c, e, sz, zs⟩ rfl rfl rfl, .refl _⟩
    · exact ⟨_, fun _ _ _ _ => .row 1 ⟨a, n, c, e, sz, zs⟩ rfl rfl rfl, .cons _ (.refl _)⟩

theorem Base1.src {fr : List (Nat × SV)} {R : RO} {hp : List (Nat × HB)} {nx : Nat} {rs rest : List Row} {a : Option Addr} {n c e sz : Nat} {zs : List Value} (h : Base1 rs rest a n c e sz zs) (hs : n ≠ 0 → a.isSome = true)
    (hl : zs.length = n * sz) (h1 : ∀ v ∈ zs, v.oneCell' = true) : SrcK ⟨fr, R, hp, nx, rs⟩ sz (.v (.slice a n c)) n zs := by
  rcases h with ⟨rfl, rfl, rfl, rfl, rfl⟩ | rfl
  · exact .nil _
  · exact src_row (r := ⟨a, n, c, e, sz, zs⟩) (List.mem_cons_self ..) hs hl h1

theorem Base1.sub {rs rest : List Row} {a : Option Addr} {n c e sz : Nat} {zs : List Value} (h : Base1 rs rest a n c e sz zs) : rest.Sublist rs := by
  rcases h with ⟨_, _, _, _, rfl⟩ | rfl
  · exact .refl _
  · exact .cons _ (.refl _)

/-- A slice that is the answer. -/
theorem Base1.isRow {hp : List (Nat × HB)} {rs rest : List Row} {a : Option Addr} {n c e sz : Nat} {zs : List Value} {Φ : Nat → List Value → Prop} (h : Base1 rs rest a n c e sz zs) (hΦ : Φ n zs) : IsRow e sz hp rs (.v (.slice a n c)) Φ := by
  rcases h with ⟨rfl, rfl, rfl, rfl, rfl⟩ | rfl
  · exact .inl ⟨rfl, hΦ⟩
  · exact .inr (.inl ⟨⟨a, n, c, e, sz, zs⟩, List.mem_cons_self .., rfl, rfl, rfl, hΦ⟩)

/-- Whole numbers, as a row's answer. -/
def Bs (k : IntKind) (xs : List Int) (n : Nat) (zs : List Value) : Prop := n = xs.length ∧ zs = ints k xs
end Go.Se
