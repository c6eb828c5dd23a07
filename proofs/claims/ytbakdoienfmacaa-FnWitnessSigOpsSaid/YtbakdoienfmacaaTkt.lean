/- The reference's checks of a witness. -/
import Derived.Test.YtbakdoienfmacaaTks
set_option linter.unusedSimpArgs false
set_option linter.unusedVariables false
namespace Go.Proofs.Ytbakdoienfmacaa.Tk
open Go Go.Se Go.Proofs Go.Proofs.Ytbakdoienfmacaa.Tytw

theorem Toks.data_le {xs : List Int} {l : List Tok} {p : Nat} (h : Toks xs l p) : ∀ t ∈ l, t.data.length ≤ xs.length := by
  induction h with
  | nil => intro t ht; cases ht
  | snoc h ho hs ih =>
    intro t ht
    rcases List.mem_append.1 ht with ht | ht
    · exact ih t ht
    · simp at ht
      subst ht
      have := stepT_le hs
      simp at this ⊢
      omega



set_option maxRecDepth 100000 in
theorem pushOnlyS {P : Program} (hP : P = Try.prog) (R : RO) (a : Option Addr) (n c : Nat) (xs : List Int) (h : RI R .u8 a n xs) (hn : n ≤ 100000) (hc : n ≤ c) :
    RetP P 38 [.slice a n c] R fun _ v => ∃ r, v = .bool r ∧ (r = true ↔ PO xs) := by
  subst hP
  have hl := h.len
  refine retP_vc (fz := []) Try.func38 rfl (by decide) rfl ok38 ?_
  intro P bin cmp cnv neg com bnot beq ofN toN at_ sub_ scmp cat sget ssz ssub elem fld_ hP hA
  conv => cbv
  refine (tokens hP R a n c xs h hn hc).callP rfl ?_
  rintro R1 _ hR1 ⟨a1, n1, c1, bad, l, p, rfl, ht, g0, hd⟩
  have l0 := g0.len
  have htl := ht.le
  have hop := ht.op h.wf
  conv => cbv
  have o := ofN_ hA n1
  refine ⟨Int, fun x => ⟨[(5, .v (.int .i64 x)), (4, .v (.int .i64 bad)), (3, .v (.slice a1 n1 c1))], R1, [], 0, []⟩,
    fun k x => ∃ j : Nat, x = j ∧ j ≤ l.length ∧ k = l.length - j ∧ ∀ t ∈ l.take j, t.op ≤ 96,
    ⟨l.length, 0, ⟨⟨rfl, rfl, rfl, trivial⟩, rfl, trivial, rfl, .refl _⟩, 0, rfl, by omega, rfl, fun t ht => by simp at ht⟩, ?_⟩
  rintro k i ⟨j, hi, hj, hk, hall⟩
  conv => cbv
  by_cases hlt : j < l.length
  case neg =>
    refine br_f (by rw [o, cmp_lss hA]; simp; omega) ?_
    conv => cbv
    intro ρ R'' _ _ _
    refine ⟨_, rfl, ?_⟩
    rw [List.take_of_length_le (by omega)] at hall
    rw [cmp_lss hA]
    rcases hd with ⟨hb, hp2⟩ | ⟨hb, hp2, hst⟩
    · simp only [hb]
      subst hp2
      exact ⟨fun _ => ⟨l, ht, hall⟩, fun _ => by decide⟩
    · constructor
      · intro hx
        simp at hx
        omega
      · rintro ⟨l', h1, h2⟩
        have := (ht.one (.inr hst) h1 (stuck_end rfl)).2
        omega
  refine br_t (by rw [o, cmp_lss hA]; simp; omega) ?_
  conv => cbv
  obtain ⟨⟨top, td, tp⟩, hxt⟩ : ∃ q, l[j]? = some q := ⟨_, List.getElem?_eq_getElem (by omega)⟩
  refine ix_at hA g0 j hi (by omega) ?_
  refine ld_whole hA g0 j hi hxt ?_
  rintro _ - ⟨b3, m3, d3, rfl, k3, k4⟩
  conv => cbv
  refine callP_in (fz := []) hP hA Try.func61 rfl (by decide) rfl ok61 (by simp [labL, lab]) ?_
  conv => cbv
  have r0 := hop _ (List.mem_of_getElem? hxt)
  simp only at r0 k3
  by_cases h96 : top ≤ 96
  case neg =>
    refine br_t (by rw [cmp_leq hA, bnot_ hA]; simp; omega) ?_
    conv => cbv
    intro ρ R'' _ _ _
    refine ⟨_, rfl, by simp, ?_⟩
    rintro ⟨l', h1, h2⟩
    exfalso
    obtain ⟨r, hr⟩ := ht.begins h1 (stuck_end rfl)
    have := h2 _ (by rw [← hr]; exact List.mem_append_left _ (List.mem_of_getElem? hxt))
    simp only at this
    omega
  refine br_f (by rw [cmp_leq hA, bnot_ hA]; simp; omega) ?_
  conv => cbv
  refine ⟨l.length - (j + 1), i + 1, by omega, ⟨⟨?_, rfl, rfl, trivial⟩, rfl, trivial, rfl, .refl _⟩, j + 1, by show i + 1 = ((j + 1 : Nat) : Int); omega, by omega, rfl, fun u hu => ?_⟩
  · rw [add_i64 hA (by omega)]
    rfl
  · rw [List.take_add_one, hxt] at hu
    rcases List.mem_append.1 hu with hu | hu
    · exact hall u hu
    · simp at hu
      rw [hu]
      exact h96

set_option maxRecDepth 100000 in
theorem lastPushS {P : Program} (hP : P = Try.prog) (R : RO) (a : Option Addr) (n c : Nat) (xs : List Int) (h : RI R .u8 a n xs) (hn : n ≤ 100000) (hc : n ≤ c) :
    RetP P 22 [.slice a n c] R fun R' v => ∃ a2 n2 c2 b, v = .tuple #[.slice a2 n2 c2, .bool b] ∧ ((b = true ∧ ∃ d, LastP xs d ∧ RI R' .u8 a2 n2 d ∧ n2 ≤ 100000) ∨ (b = false ∧ ∀ d, ¬ LastP xs d)) := by
  subst hP
  have hl := h.len
  refine retP_vc (fz := []) Try.func22 rfl (by decide) rfl ok22 ?_
  intro P bin cmp cnv neg com bnot beq ofN toN at_ sub_ scmp cat sget ssz ssub elem fld_ hP hA
  conv => cbv
  refine (tokens hP R a n c xs h hn hc).callP rfl ?_
  rintro R1 _ hR1 ⟨a1, n1, c1, bad, l, p, rfl, ht, g0, hd⟩
  have l0 := g0.len
  have htl := ht.le
  have hop := ht.op h.wf
  conv => cbv
  have o := ofN_ hA n1
  refine (pushOnlyS hP R1 a n c xs (h.le hR1) hn hc).callQ rfl ?_
  rintro _ ⟨r, rfl, hr⟩
  conv => cbv
  have nt : bnot true = false := by rw [bnot_ hA]; rfl
  have nf : bnot false = true := by rw [bnot_ hA]; rfl
  cases r with
  | false =>
    simp only [nf]
    conv => cbv
    intro ρ R'' _ _ _
    refine ⟨_, _, _, _, rfl, .inr ⟨rfl, ?_⟩⟩
    rintro d ⟨l', t, h1, h2, _⟩
    have := hr.2 ⟨_, h1, h2⟩
    cases this
  | true =>
  simp only [nt]
  conv => cbv
  obtain ⟨l', h1, h2⟩ := hr.1 rfl
  have hst : Stuck xs p := by
    rcases hd with ⟨_, hp2⟩ | ⟨_, _, hst⟩
    · exact stuck_end hp2
    · exact .inr hst
  obtain ⟨rfl, rfl⟩ := ht.one hst h1 (stuck_end rfl)
  by_cases hz : l.length = 0
  · refine br_t (by rw [o, cmp_eql hA]; simp; omega) ?_
    conv => cbv
    intro ρ R'' _ _ _
    refine ⟨_, _, _, _, rfl, .inr ⟨rfl, ?_⟩⟩
    rintro d ⟨l'', t, i1, i2, _⟩
    obtain ⟨he, _⟩ := ht.one hst i1 (stuck_end rfl)
    rw [he] at hz
    simp at hz
  refine br_f (by rw [o, cmp_eql hA]; simp; omega) ?_
  conv => cbv
  have em : bin .sub .i64 (ofN n1) 1 = ((n1 - 1 : Nat) : Int) := by rw [o, sub_i64 hA (by omega)]; omega
  obtain ⟨t, hxt⟩ : ∃ q, l[n1 - 1]? = some q := ⟨_, List.getElem?_eq_getElem (by omega)⟩
  refine ix_at hA g0 (n1 - 1) em (by omega) ?_
  refine ld_fld hA g0 (n1 - 1) em hxt 1 ?_
  rintro _ - ⟨b3, m3, d3, rfl, k3, k4⟩
  refine ⟨_, rfl, ?_⟩
  conv => cbv
  intro ρ R'' _ _ _
  rename_i hle _ _
  have hL : l = l.take (l.length - 1) ++ [t] := by
    conv => lhs; rw [← List.take_append_drop (l.length - 1) l]
    congr 1
    rw [List.drop_eq_getElem_cons (by omega), List.drop_of_length_le (by omega)]
    rw [l0, List.getElem?_eq_getElem (by omega), Option.some.injEq] at hxt
    rw [hxt]
  have hdl := ht.data_le t (List.mem_of_getElem? hxt)
  have k3l := k3.len
  refine ⟨_, _, _, _, rfl, .inl ⟨rfl, t.data, ⟨_, t, by rw [← hL]; exact ht, by rw [← hL]; exact h2, rfl⟩, k3.le hle, by omega⟩⟩


set_option maxRecDepth 100000 in
theorem paysS {P : Program} (hP : P = Try.prog) (R : RO) (a : Option Addr) (n c : Nat) (xs : List Int) (h : RI R .u8 a n xs) (hn : n ≤ 100000) :
    RetP P 21 [.slice a n c] R fun _ v => ∃ r, v = .bool r ∧ (r = true ↔ Pays xs) := by
  subst hP
  have hl := h.len
  refine retP_vc (fz := []) Try.func21 rfl (by decide) rfl ok21 ?_
  intro P bin cmp cnv neg com bnot beq ofN toN at_ sub_ scmp cat sget ssz ssub elem fld_ hP hA
  conv => cbv
  have o := ofN_ hA n
  by_cases h23 : n = 23
  case neg =>
    have q1 : cmp .eql (ofN n) 23 = false := by rw [o, cmp_eql hA]; simp; omega
    simp only [q1]
    conv => cbv
    intro ρ R'' _ _ _
    refine ⟨_, rfl, by simp, fun hx => ?_⟩
    obtain ⟨x1, x2, x3, x4⟩ := hx
    omega
  have q1 : cmp .eql (ofN n) 23 = true := by rw [o, cmp_eql hA]; simp; omega
  simp only [q1]
  conv => cbv
  refine ix_u8 hA h 0 rfl (by omega) ?_
  refine ld_u8 hA h (by omega) (by omega) ?_
  intro b hb b0 b1
  replace hb : b = xs.getD 0 0 := hb
  conv => cbv
  by_cases g0 : b = 169
  case neg =>
    have q2 : cmp .eql b 169 = false := by rw [cmp_eql hA]; simp; omega
    simp only [q2]
    conv => cbv
    intro ρ R'' _ _ _
    refine ⟨_, rfl, by simp, fun hx => ?_⟩
    obtain ⟨x1, x2, x3, x4⟩ := hx
    omega
  have q2 : cmp .eql b 169 = true := by rw [cmp_eql hA]; simp; omega
  simp only [q2]
  conv => cbv
  refine ix_u8 hA h 1 rfl (by omega) ?_
  refine ld_u8 hA h (by omega) (by omega) ?_
  intro b' hb' b0' b1'
  replace hb' : b' = xs.getD 1 0 := hb'
  conv => cbv
  by_cases g1 : b' = 20
  case neg =>
    have q3 : cmp .eql b' 20 = false := by rw [cmp_eql hA]; simp; omega
    simp only [q3]
    conv => cbv
    intro ρ R'' _ _ _
    refine ⟨_, rfl, by simp, fun hx => ?_⟩
    obtain ⟨x1, x2, x3, x4⟩ := hx
    omega
  have q3 : cmp .eql b' 20 = true := by rw [cmp_eql hA]; simp; omega
  simp only [q3]
  conv => cbv
  refine ix_u8 hA h 22 rfl (by omega) ?_
  refine ld_u8 hA h (by omega) (by omega) ?_
  intro b'' hb'' b0'' b1''
  replace hb'' : b'' = xs.getD 22 0 := hb''
  conv => cbv
  intro ρ R'' _ _ _
  refine ⟨_, rfl, ?_⟩
  rw [cmp_eql hA]
  simp only [beq_iff_eq]
  exact ⟨fun hx => ⟨by omega, by omega, by omega, by omega⟩, fun hx => by have := hx.2.2.2; omega⟩


set_option maxRecDepth 100000 in
theorem programS {P : Program} (hP : P = Try.prog) (R : RO) (a : Option Addr) (n c : Nat) (xs : List Int) (h : RI R .u8 a n xs) (hn : n ≤ 100000) (hc : n ≤ c) :
    RetP P 19 [.slice a n c] R fun _ v => ∃ k a2 n2 c2 b, v = .tuple #[.int .i64 k, .slice a2 n2 c2, .bool b] ∧ (b = true ↔ IsProg xs) := by
  subst hP
  have hl := h.len
  refine retP_vc (fz := []) Try.func19 rfl (by decide) rfl ok19 ?_
  intro P bin cmp cnv neg com bnot beq ofN toN at_ sub_ scmp cat sget ssz ssub elem fld_ hP hA
  conv => cbv
  refine (tokens hP R a n c xs h hn hc).callP rfl ?_
  rintro R1 _ hR1 ⟨a1, n1, c1, bad, l, p, rfl, ht, g0, hd⟩
  have l0 := g0.len
  have htl := ht.le
  have hop := ht.op h.wf
  conv => cbv
  have o := ofN_ hA n1
  rcases hd with ⟨hb, hp2⟩ | ⟨hb, hp2, hst⟩
  case inr =>
    have q1 : cmp .geq bad 0 = true := by rw [hb, cmp_geq hA]; simp
    simp only [q1]
    conv => cbv
    intro ρ R'' _ _ _
    refine ⟨_, _, _, _, _, rfl, by simp, fun hx => ?_⟩
    have := (ht.one (.inr hst) hx.toks (stuck_end rfl)).2
    omega
  have q1 : cmp .geq bad 0 = false := by rw [hb, cmp_geq hA]; rfl
  simp only [q1]
  conv => cbv
  subst hp2
  by_cases h2 : n1 = 2
  case neg =>
    have q2 : cmp .neq (ofN n1) 2 = true := by rw [o, cmp_neq hA]; simp; omega
    simp only [q2]
    conv => cbv
    intro ρ R'' _ _ _
    refine ⟨_, _, _, _, _, rfl, by simp, fun hx => ?_⟩
    have := (ht.one (stuck_end rfl) hx.toks (stuck_end rfl)).1
    rw [this] at l0
    exact absurd l0 h2
  have q2 : cmp .neq (ofN n1) 2 = false := by rw [o, cmp_neq hA]; simp; omega
  simp only [q2]
  conv => cbv
  have o2 := ofN_ hA n
  by_cases h4 : n < 4
  · have q3 : cmp .lss (ofN n) 4 = true := by rw [o2, cmp_lss hA]; simp; omega
    simp only [q3]
    conv => cbv
    intro ρ R'' _ _ _
    refine ⟨_, _, _, _, _, rfl, by simp, fun hx => ?_⟩
    have := hx.1
    omega
  have q3 : cmp .lss (ofN n) 4 = false := by rw [o2, cmp_lss hA]; simp; omega
  simp only [q3]
  conv => cbv
  by_cases h42 : n > 42
  · have q4 : cmp .gtr (ofN n) 42 = true := by rw [o2, cmp_gtr hA]; simp; omega
    simp only [q4]
    conv => cbv
    intro ρ R'' _ _ _
    refine ⟨_, _, _, _, _, rfl, by simp, fun hx => ?_⟩
    have := hx.2.1
    omega
  have q4 : cmp .gtr (ofN n) 42 = false := by rw [o2, cmp_gtr hA]; simp; omega
  simp only [q4]
  conv => cbv
  obtain ⟨⟨op0, d0, p0⟩, ⟨op1, d1, p1⟩, rfl⟩ : ∃ t0 t1, l = [t0, t1] := by
    match l, (by omega : l.length = 2) with
    | [x, y], _ => exact ⟨x, y, rfl⟩
  have ex : IsProg xs → op0 = xs.getD 0 0 ∧ op1 = xs.getD 1 0 := fun hx => by
    have := (ht.one (stuck_end rfl) hx.toks (stuck_end rfl)).1
    simp only [List.cons.injEq, and_true, Tok.mk.injEq] at this
    exact ⟨this.1.1, this.2.1⟩
  refine ix_at hA g0 1 rfl (by omega) ?_
  refine ld_fld hA g0 1 rfl (x := ⟨op1, d1, p1⟩) rfl 0 ?_
  rintro _ - ⟨b3, m3, d3, rfl, k3, k4⟩
  refine ⟨_, rfl, ?_⟩
  conv => cbv
  by_cases g2 : op1 < 2
  · have q5 : cmp .lss op1 2 = true := by rw [cmp_lss hA]; simp; omega
    simp only [q5]
    conv => cbv
    intro ρ R'' _ _ _
    refine ⟨_, _, _, _, _, rfl, by simp, fun hx => ?_⟩
    have := ex hx
    obtain ⟨x1, x2, x3, x4⟩ := hx
    omega
  have q5 : cmp .lss op1 2 = false := by rw [cmp_lss hA]; simp; omega
  simp only [q5]
  conv => cbv
  refine ix_at hA g0 1 rfl (by omega) ?_
  refine ld_fld hA g0 1 rfl (x := ⟨op1, d1, p1⟩) rfl 0 ?_
  rintro _ - ⟨b5, m5, d5, rfl, k5, k6⟩
  refine ⟨_, rfl, ?_⟩
  conv => cbv
  by_cases g40 : op1 > 40
  · refine br_t (by rw [cmp_gtr hA]; simp; omega) ?_
    conv => cbv
    intro ρ R'' _ _ _
    refine ⟨_, _, _, _, _, rfl, by simp, fun hx => ?_⟩
    have := ex hx
    obtain ⟨x1, x2, x3, x4⟩ := hx
    omega
  refine br_f (by rw [cmp_gtr hA]; simp; omega) ?_
  conv => cbv
  refine ix_at hA g0 0 rfl (by omega) ?_
  refine ld_fld hA g0 0 rfl (x := ⟨op0, d0, p0⟩) rfl 0 ?_
  rintro _ - ⟨b7, m7, d7, rfl, k7, k8⟩
  refine ⟨_, rfl, ?_⟩
  conv => cbv
  have r0 := hop ⟨op0, d0, p0⟩ (by simp)
  simp only at r0
  refine (smallS hP R1 op0 r0.1 r0.2).callQ rfl ?_
  rintro _ ⟨s, bs, rfl, hs⟩
  conv => cbv
  refine ⟨[0, 1, 2, 3, 4, 5, 6, 7, 8], [], mix hP, by kernel_rfl, ?_⟩
  conv => cbv
  refine ix_at hA g0 1 rfl (by omega) ?_
  refine ld_fld hA g0 1 rfl (x := ⟨op1, d1, p1⟩) rfl 1 ?_
  rintro _ - ⟨b9, m9, d9, rfl, k9, k10⟩
  refine ⟨_, rfl, ?_⟩
  conv => cbv
  intro ρ R'' _ _ _
  refine ⟨_, _, _, _, _, rfl, ?_⟩
  rcases hs with ⟨rfl, hs⟩ | ⟨rfl, hs⟩
  · exact ⟨fun _ => prog_of ht (by rw [hs]; simp) ⟨by show 2 ≤ op1; omega, by show op1 ≤ 40; omega⟩ (by omega) (by omega), fun _ => rfl⟩
  · refine ⟨by simp, fun hx => ?_⟩
    have h3 := hx.2.2.1
    rw [← (ex hx).1, hs] at h3
    exact absurd rfl h3

set_option maxRecDepth 100000 in
theorem progSigOpsS {P : Program} (hP : P = Try.prog) (R : RO) (a : Option Addr) (n c : Nat) (xs : List Int) (h : RI R .u8 a n xs) (hn : n ≤ 100000) (w : Option Addr) (m d : Nat) (wit : List (List Int)) (hw : LAt R 1 BAt w m d wit) (hwl : ∀ x ∈ wit, x.length ≤ 100000) (hwm : m ≤ 1000000) :
    RetP P 20 [.slice a n c, .slice w m d] R fun _ v => ∃ k, v = .int .i64 k ∧ PSO xs wit k := by
  subst hP
  have hl := h.len
  have wl := hw.len
  refine retP_vc (fz := []) Try.func20 rfl (by decide) rfl ok20 ?_
  intro P bin cmp cnv neg com bnot beq ofN toN at_ sub_ scmp cat sget ssz ssub elem fld_ hP hA
  conv => cbv
  have o := ofN_ hA m
  refine (isWKey hP R a n c xs h hn).callQ rfl ?_
  rintro _ ⟨r, rfl, hr⟩
  conv => cbv
  cases r with
  | true =>
    conv => cbv
    intro ρ R'' _ _ _
    exact ⟨_, rfl, .inl ⟨hr.1 rfl, rfl⟩⟩
  | false =>
  conv => cbv
  have hn20 : ¬ WP 20 xs := fun hx => by have := hr.2 hx; cases this
  refine (isWScr hP R a n c xs h hn).callQ rfl ?_
  rintro _ ⟨r2, rfl, hr2⟩
  conv => cbv
  cases r2 with
  | false =>
    conv => cbv
    intro ρ R'' _ _ _
    exact ⟨_, rfl, .inr (.inr ⟨hn20, .inl (fun hx => by have := hr2.2 hx; cases this), rfl⟩)⟩
  | true =>
  conv => cbv
  by_cases hm0 : m = 0
  · refine br_f (by rw [o, cmp_gtr hA]; simp; omega) ?_
    conv => cbv
    intro ρ R'' _ _ _
    exact ⟨_, rfl, .inr (.inr ⟨hn20, .inr (List.eq_nil_of_length_eq_zero (by omega)), rfl⟩)⟩
  refine br_t (by rw [o, cmp_gtr hA]; simp; omega) ?_
  conv => cbv
  have em : bin .sub .i64 (ofN m) 1 = ((m - 1 : Nat) : Int) := by rw [o, sub_i64 hA (by omega)]; omega
  obtain ⟨t, hxt⟩ : ∃ q, wit[m - 1]? = some q := ⟨_, List.getElem?_eq_getElem (by omega)⟩
  refine ix_at hA hw (m - 1) em (by omega) ?_
  refine ld_elem hA hw (m - 1) em hxt ?_
  rintro _ - ⟨b3, m3, d3, rfl, k3, k4, k5⟩
  refine ⟨_, rfl, ?_⟩
  conv => cbv
  have k3l := k3.len
  have htl := hwl t (List.mem_of_getElem? hxt)
  refine (sigOpsS hP R b3 m3 d3 t k3 (by omega) k5 true).callQ rfl ?_
  rintro _ ⟨k, rfl, hk⟩
  conv => cbv
  intro ρ R'' _ _ _
  exact ⟨_, rfl, .inr (.inl ⟨hn20, hr2.1 rfl, t, by rw [← wl]; exact hxt, hk⟩)⟩

set_option maxRecDepth 100000 in
theorem witSigOpsS {P : Program} (hP : P = Try.prog) (R : RO) (a : Option Addr) (n c : Nat) (sig : List Int) (h : RI R .u8 a n sig) (hn : n ≤ 100000) (hc : n ≤ c) (a2 : Option Addr) (n2 c2 : Nat) (pk : List Int) (h2 : RI R .u8 a2 n2 pk) (hn2 : n2 ≤ 100000) (hc2 : n2 ≤ c2)
    (w : Option Addr) (m d : Nat) (wit : List (List Int)) (hw : LAt R 1 BAt w m d wit) (hwl : ∀ x ∈ wit, x.length ≤ 100000) (hwm : m ≤ 1000000) :
    RetP P 11 [.slice a n c, .slice a2 n2 c2, .slice w m d] R fun _ v => ∃ k, v = .int .i64 k ∧ WSO sig pk wit k := by
  subst hP
  refine retP_vc (fz := []) Try.func11 rfl (by decide) rfl ok11 ?_
  intro P bin cmp cnv neg com bnot beq ofN toN at_ sub_ scmp cat sget ssz ssub elem fld_ hP hA
  conv => cbv
  have nt : bnot true = false := by rw [bnot_ hA]; rfl
  have nf : bnot false = true := by rw [bnot_ hA]; rfl
  refine (programS hP R a2 n2 c2 pk h2 hn2 hc2).callQ rfl ?_
  rintro _ ⟨k0, a3, n3, c3, b, rfl, hb⟩
  conv => cbv
  cases b with
  | true =>
    conv => cbv
    refine (progSigOpsS hP R a2 n2 c2 pk h2 hn2 w m d wit hw hwl hwm).callQ rfl ?_
    rintro _ ⟨k, rfl, hk⟩
    conv => cbv
    intro ρ R'' _ _ _
    exact ⟨_, rfl, .inl ⟨hb.1 rfl, hk⟩⟩
  | false =>
  have hnp : ¬ IsProg pk := fun hx => by have := hb.2 hx; cases this
  conv => cbv
  refine (paysS hP R a2 n2 c2 pk h2 hn2).callQ rfl ?_
  rintro _ ⟨r, rfl, hr⟩
  conv => cbv
  cases r with
  | false =>
    simp only [nf]
    conv => cbv
    intro ρ R'' _ _ _
    exact ⟨_, rfl, .inr ⟨hnp, .inr ⟨.inl (fun hx => by have := hr.2 hx; cases this), rfl⟩⟩⟩
  | true =>
  simp only [nt]
  conv => cbv
  refine (lastPushS hP R a n c sig h hn hc).callP rfl ?_
  rintro R1 _ hR1 ⟨a4, n4, c4, b4, rfl, hb4⟩
  conv => cbv
  rcases hb4 with ⟨rfl, dd, hd, h4, hn4⟩ | ⟨rfl, hd⟩
  · simp only [nt]
    conv => cbv
    refine (progSigOpsS hP R1 a4 n4 c4 dd h4 hn4 w m d wit (hw.le hR1 (fun cs x hx => let ⟨a, n, c, h1, h2, h3⟩ := hx; ⟨a, n, c, h1, h2.le hR1, h3⟩)) hwl hwm).callQ rfl ?_
    rintro _ ⟨k, rfl, hk⟩
    conv => cbv
    intro ρ R'' _ _ _
    exact ⟨_, rfl, .inr ⟨hnp, .inl ⟨hr.1 rfl, dd, hd, hk⟩⟩⟩
  · simp only [nf]
    conv => cbv
    intro ρ R'' _ _ _
    exact ⟨_, rfl, .inr ⟨hnp, .inr ⟨.inr hd, rfl⟩⟩⟩
end Go.Proofs.Ytbakdoienfmacaa.Tk
