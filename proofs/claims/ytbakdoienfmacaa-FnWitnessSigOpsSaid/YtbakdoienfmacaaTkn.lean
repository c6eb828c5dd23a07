/- A script of many: both, and the law. -/
import Derived.Test.YtbakdoienfmacaaTkm
import Derived.Test.YtbakdoienfmacaaTkc
import Derived.Test.YtbakdoienfmacaaTytm
set_option linter.unusedSimpArgs false
set_option linter.unusedVariables false
namespace Go.Proofs.Ytbakdoienfmacaa.Tk
open Go Go.Se Go.Proofs Go.Proofs.Ytbakdoienfmacaa.Tytm

theorem Toks.op {xs : List Int} {l : List Tok} {p : Nat} (h : Toks xs l p) (hw : ∀ x ∈ xs, (Lit.int .u8 x).wf = true) : ∀ t ∈ l, 0 ≤ t.op ∧ t.op ≤ 255 := by
  induction h with
  | nil => intro t ht; cases ht
  | snoc h ho hs ih =>
    intro t ht
    rcases List.mem_append.1 ht with ht | ht
    · exact ih t ht
    · simp at ht
      subst ht
      exact wf_u8 (hw _ (List.mem_of_getElem? ho))


set_option maxRecDepth 100000 in
theorem smallS {P : Program} (hP : P = Try.prog) (R : RO) (op : Int) (h0 : 0 ≤ op) (h1 : op ≤ 255) : RetP P 15 [.int .i64 op] R fun _ v => ∃ k b, v = .tuple #[.int .i64 k, .bool b] ∧ ((b = true ∧ smallV op = some k) ∨ (b = false ∧ smallV op = none)) := by
  subst hP
  refine retP_vc (fz := []) Try.func15 rfl (by decide) rfl ok15 ?_
  intro P bin cmp cnv neg com bnot beq ofN toN at_ sub_ scmp cat sget ssz ssub elem fld_ hP hA
  conv => cbv
  by_cases hz : op = 0
  · refine br_t (by rw [cmp_eql hA]; simpa using hz) ?_
    conv => cbv
    intro ρ R'' _ _ _
    exact ⟨_, _, rfl, .inl ⟨rfl, by rw [smallV, if_pos hz]⟩⟩
  refine br_f (by rw [cmp_eql hA]; simpa using hz) ?_
  conv => cbv
  by_cases ha : 81 ≤ op
  · have d1 : cmp .geq op 81 = true := by rw [cmp_geq hA]; simp; omega
    simp only [d1]
    conv => cbv
    by_cases hb : op ≤ 96
    · refine br_t (by rw [cmp_leq hA]; simp; omega) ?_
      conv => cbv
      intro ρ R'' _ _ _
      refine ⟨_, _, rfl, .inl ⟨rfl, ?_⟩⟩
      have e1 : bin .sub .i64 op 81 = op - 81 := sub_i64 hA (by omega)
      rw [smallV, if_neg hz, if_pos ⟨ha, hb⟩, e1, add_i64 hA (by omega)]
      congr 1
      omega
    refine br_f (by rw [cmp_leq hA]; simp; omega) ?_
    conv => cbv
    intro ρ R'' _ _ _
    exact ⟨_, _, rfl, .inr ⟨rfl, by rw [smallV, if_neg hz, if_neg (by omega)]⟩⟩
  have d1 : cmp .geq op 81 = false := by rw [cmp_geq hA]; simp; omega
  simp only [d1]
  conv => cbv
  intro ρ R'' _ _ _
  exact ⟨_, _, rfl, .inr ⟨rfl, by rw [smallV, if_neg hz, if_neg (by omega)]⟩⟩

set_option maxRecDepth 100000 in
theorem isSmall {P : Program} (hP : P = Try.prog) (R : RO) (op : Int) (h0 : 0 ≤ op) (h1 : op ≤ 255) : RetP P 49 [.int .u8 op] R fun _ v => ∃ b, v = .bool b ∧ b = (smallV op).isSome := by
  subst hP
  refine retP_vc (fz := []) Try.func49 rfl (by decide) rfl ok49 ?_
  intro P bin cmp cnv neg com bnot beq ofN toN at_ sub_ scmp cat sget ssz ssub elem fld_ hP hA
  conv => cbv
  by_cases hz : op = 0
  · have d0 : cmp .eql op 0 = true := by rw [cmp_eql hA]; simpa using hz
    simp only [d0]
    conv => cbv
    intro ρ R'' _ _ _
    exact ⟨_, rfl, by rw [smallV, if_pos hz]; rfl⟩
  have d0 : cmp .eql op 0 = false := by rw [cmp_eql hA]; simpa using hz
  simp only [d0]
  conv => cbv
  by_cases ha : 81 ≤ op
  · have d1 : cmp .geq op 81 = true := by rw [cmp_geq hA]; simp; omega
    simp only [d1]
    conv => cbv
    intro ρ R'' _ _ _
    refine ⟨_, rfl, ?_⟩
    show cmp .leq op 96 = _
    rw [cmp_leq hA, smallV, if_neg hz]
    by_cases hb : op ≤ 96
    · rw [if_pos ⟨ha, hb⟩]; simpa using hb
    · rw [if_neg (by omega)]; simp; omega
  have d1 : cmp .geq op 81 = false := by rw [cmp_geq hA]; simp; omega
  simp only [d1]
  conv => cbv
  intro ρ R'' _ _ _
  exact ⟨_, rfl, by rw [smallV, if_neg hz, if_neg (by omega)]; rfl⟩

set_option maxRecDepth 100000 in
theorem asSmall {P : Program} (hP : P = Try.prog) (R : RO) (op k : Int) (h0 : 0 ≤ op) (h1 : op ≤ 255) (hk : smallV op = some k) : RetP P 51 [.int .u8 op] R fun _ v => ∃ k', v = .int .i64 k' ∧ k' = k := by
  subst hP
  refine retP_vc (fz := []) Try.func51 rfl (by decide) rfl ok51 ?_
  intro P bin cmp cnv neg com bnot beq ofN toN at_ sub_ scmp cat sget ssz ssub elem fld_ hP hA
  conv => cbv
  unfold smallV at hk
  by_cases hz : op = 0
  · refine br_t (by rw [cmp_eql hA]; simpa using hz) ?_
    conv => cbv
    intro ρ R'' _ _ _
    rw [if_pos hz] at hk
    cases hk
    exact ⟨_, rfl, rfl⟩
  refine br_f (by rw [cmp_eql hA]; simpa using hz) ?_
  conv => cbv
  intro ρ R'' _ _ _
  rw [if_neg hz] at hk
  split at hk
  · cases hk
    refine ⟨_, rfl, ?_⟩
    have e1 : bin .sub .u8 op 80 = op - 80 := sub_u8 hA (by omega)
    rw [e1, cnv_i64 hA (by omega)]
  · cases hk

theorem many_iff {xs : List Int} {l : List Tok} {k s : Int} (h : Toks xs l xs.length) : Many xs k s ↔ ManyIs l k s :=
  ⟨fun ⟨L, h1, h2⟩ => by obtain ⟨rfl, _⟩ := h.one (stuck_end rfl) h1 (stuck_end rfl); exact h2, fun hm => ⟨l, h, hm⟩⟩

theorem many_bad {xs : List Int} {l : List Tok} {p : Nat} {k s : Int} (h : Toks xs l p) (hs : Stuck xs p) (hp : p < xs.length) : ¬ Many xs k s := fun ⟨L, h1, _⟩ => by
  have := (h.one hs h1 (stuck_end rfl)).2
  omega


set_option maxRecDepth 100000 in
set_option maxHeartbeats 2000000 in
theorem manyS {P : Program} (hP : P = Try.prog) (R : RO) (a : Option Addr) (n c : Nat) (xs : List Int) (h : RI R .u8 a n xs) (hn : n ≤ 100000) (hc : n ≤ c) :
    RetP P 6 [.slice a n c] R fun _ v => ∃ k s b, v = .tuple #[.int .i64 k, .int .i64 s, .bool b] ∧ ((b = true ∧ Many xs k s) ∨ (b = false ∧ ∀ k s, ¬ Many xs k s)) := by
  subst hP
  have hl := h.len
  refine retP_vc (fz := []) Try.func6 rfl (by decide) rfl ok6 ?_
  intro P bin cmp cnv neg com bnot beq ofN toN at_ sub_ scmp cat sget ssz ssub elem fld_ hP hA
  conv => cbv
  refine (tokens hP R a n c xs h hn hc).callP rfl ?_
  rintro R1 _ hR1 ⟨a1, n1, c1, bad, l, p, rfl, ht, g0, hd⟩
  have l0 := g0.len
  have htl := ht.le
  have hop := ht.op h.wf
  conv => cbv
  have o := ofN_ hA n1
  rcases hd with ⟨hb, hp2⟩ | ⟨hb, hp2, hst⟩
  case inr =>
    have d1 : cmp .geq bad 0 = true := by rw [hb, cmp_geq hA]; simp
    simp only [d1]
    conv => cbv
    intro ρ R'' _ _ _
    refine ⟨_, _, _, rfl, .inr ⟨rfl, fun k s hm => ?_⟩⟩
    exact many_bad ht (.inr hst) hp2 hm
  have d1 : cmp .geq bad 0 = false := by rw [hb, cmp_geq hA]; rfl
  simp only [d1]
  conv => cbv
  subst hp2
  by_cases h3 : l.length < 3
  · have d2 : cmp .lss (ofN n1) 3 = true := by rw [o, cmp_lss hA]; simp; omega
    simp only [d2]
    conv => cbv
    intro ρ R'' _ _ _
    refine ⟨_, _, _, rfl, .inr ⟨rfl, fun k s hm => ?_⟩⟩
    have := ((many_iff ht).1 hm).1
    omega
  have d2 : cmp .lss (ofN n1) 3 = false := by rw [o, cmp_lss hA]; simp; omega
  simp only [d2]
  conv => cbv
  have e1 : bin .sub .i64 (ofN n1) 1 = ((n1 - 1 : Nat) : Int) := by rw [o, sub_i64 hA (by omega)]; omega
  have e2 : bin .sub .i64 (ofN n1) 2 = ((n1 - 2 : Nat) : Int) := by rw [o, sub_i64 hA (by omega)]; omega
  have e3 : bin .sub .i64 (ofN n1) 3 = ((n1 - 3 : Nat) : Int) := by rw [o, sub_i64 hA (by omega)]; omega
  obtain ⟨q, hxq⟩ : ∃ q, l[n1 - 1]? = some q := ⟨_, List.getElem?_eq_getElem (by omega)⟩
  obtain ⟨t0, hx0⟩ : ∃ q, l[0]? = some q := ⟨_, List.getElem?_eq_getElem (by omega)⟩
  obtain ⟨t2, hx2⟩ : ∃ q, l[n1 - 2]? = some q := ⟨_, List.getElem?_eq_getElem (by omega)⟩
  refine ix_at hA g0 (n1 - 1) e1 (by omega) ?_
  refine ld_fld hA g0 (n1 - 1) e1 hxq 0 ?_
  rintro _ - ⟨b1, m1, d1, rfl, k1, k2⟩
  refine ⟨_, rfl, ?_⟩
  conv => cbv
  by_cases hq : q.op = 174
  case neg =>
    refine br_t (by rw [cmp_neq hA]; simpa using hq) ?_
    conv => cbv
    intro ρ R'' _ _ _
    refine ⟨_, _, _, rfl, .inr ⟨rfl, fun k s hm => ?_⟩⟩
    obtain ⟨_, ⟨t, i1, i2⟩, -⟩ := (many_iff ht).1 hm
    rw [← l0, hxq] at i1
    cases i1
    exact hq i2
  refine br_f (by rw [cmp_neq hA]; simpa using hq) ?_
  conv => cbv
  refine ix_at hA g0 0 rfl (by omega) ?_
  refine ld_fld hA g0 0 rfl hx0 0 ?_
  rintro _ - ⟨b3, m3, d3, rfl, k3, k4⟩
  refine ⟨_, rfl, ?_⟩
  conv => cbv
  have r0 := hop t0 (List.mem_of_getElem? hx0)
  have r2 := hop t2 (List.mem_of_getElem? hx2)
  refine (smallS hP R1 t0.op r0.1 r0.2).callQ rfl ?_
  rintro _ ⟨s, bs, rfl, hs⟩
  conv => cbv
  refine ix_at hA g0 (n1 - 2) e2 (by omega) ?_
  refine ld_fld hA g0 (n1 - 2) e2 hx2 0 ?_
  rintro _ - ⟨b5, m5, d5, rfl, k5, k6⟩
  refine ⟨_, rfl, ?_⟩
  conv => cbv
  refine (smallS hP R1 t2.op r2.1 r2.2).callQ rfl ?_
  rintro _ ⟨k, bk, rfl, hk⟩
  conv => cbv
  have nt : bnot true = false := by rw [bnot_ hA]; rfl
  have nf : bnot false = true := by rw [bnot_ hA]; rfl
  rcases hs with ⟨rfl, hs⟩ | ⟨rfl, hs⟩
  case inr =>
    simp only [nf]
    conv => cbv
    intro ρ R'' _ _ _
    refine ⟨_, _, _, rfl, .inr ⟨rfl, fun k s hm => ?_⟩⟩
    obtain ⟨_, _, ⟨t, i1, i2⟩, -⟩ := (many_iff ht).1 hm
    rw [hx0] at i1
    cases i1
    rw [hs] at i2
    cases i2
  simp only [nt]
  conv => cbv
  rcases hk with ⟨rfl, hk⟩ | ⟨rfl, hk⟩
  case inr =>
    simp only [nf]
    conv => cbv
    intro ρ R'' _ _ _
    refine ⟨_, _, _, rfl, .inr ⟨rfl, fun k s hm => ?_⟩⟩
    obtain ⟨_, _, _, ⟨t, i1, i2⟩, -⟩ := (many_iff ht).1 hm
    rw [← l0, hx2] at i1
    cases i1
    rw [hk] at i2
    cases i2
  simp only [nt]
  conv => cbv
  by_cases hkn : k = ((n1 - 3 : Nat) : Int)
  case neg =>
    refine br_t (by rw [e3, cmp_neq hA]; simpa using hkn) ?_
    conv => cbv
    intro ρ R'' _ _ _
    refine ⟨_, _, _, rfl, .inr ⟨rfl, fun k s hm => ?_⟩⟩
    obtain ⟨_, _, _, ⟨t, i1, i2⟩, i3, -⟩ := (many_iff ht).1 hm
    rw [← l0, hx2] at i1
    cases i1
    rw [hk] at i2
    cases i2
    omega
  refine br_f (by rw [e3, cmp_neq hA]; simpa using hkn) ?_
  conv => cbv
  refine ⟨Int, fun x => ⟨[(10, .v (.int .i64 x)), (5, .v (.slice a1 n1 c1)), (7, .v (.int .i64 (ofN n1))), (2, .v (.int .i64 k)), (3, .v (.int .i64 s))], R1, [], 0, []⟩,
    fun m x => ∃ j : Nat, x = j ∧ 1 ≤ j ∧ j ≤ n1 - 2 ∧ m = n1 - j ∧ ∀ (i : Nat) (t : Tok), 1 ≤ i → i < j → l[i]? = some t → smallV t.op = none,
    ⟨n1 - 1, 1, ⟨⟨rfl, rfl, rfl, rfl, rfl, trivial⟩, rfl, trivial, rfl, .refl _⟩, 1, rfl, by omega, by omega, rfl, fun i t h1 h2 => by omega⟩, ?_⟩
  rintro m x ⟨j, hx, hj1, hj2, hm, hall⟩
  conv => cbv
  by_cases hlt : j < n1 - 2
  case neg =>
    refine br_f (by rw [e2, cmp_lss hA]; simp; omega) ?_
    conv => cbv
    intro ρ R'' _ _ _
    refine ⟨_, _, _, rfl, .inl ⟨rfl, (many_iff ht).2 ⟨by omega, ⟨q, by rw [← l0]; exact hxq, hq⟩, ⟨t0, hx0, hs⟩, ⟨t2, by rw [← l0]; exact hx2, hk⟩, by omega, fun i t h1 h2 => hall i t h1 (by omega)⟩⟩⟩
  refine br_t (by rw [e2, cmp_lss hA]; simp; omega) ?_
  conv => cbv
  obtain ⟨t, hxt⟩ : ∃ q, l[j]? = some q := ⟨_, List.getElem?_eq_getElem (by omega)⟩
  refine ix_at hA g0 j hx (by omega) ?_
  refine ld_fld hA g0 j hx hxt 0 ?_
  rintro _ - ⟨b7, m7, d7, rfl, k7, k8⟩
  refine ⟨_, rfl, ?_⟩
  conv => cbv
  have r3 := hop t (List.mem_of_getElem? hxt)
  refine (smallS hP R1 t.op r3.1 r3.2).callQ rfl ?_
  rintro _ ⟨k', bb, rfl, hb'⟩
  conv => cbv
  rcases hb' with ⟨rfl, hb'⟩ | ⟨rfl, hb'⟩
  · conv => cbv
    conv => cbv
    intro ρ R'' _ _ _
    refine ⟨_, _, _, rfl, .inr ⟨rfl, fun k s hm => ?_⟩⟩
    obtain ⟨_, _, _, _, _, i3⟩ := (many_iff ht).1 hm
    rw [i3 j t hj1 (by omega) hxt] at hb'
    cases hb'
  · conv => cbv
    refine ⟨n1 - (j + 1), x + 1, by omega, ⟨⟨?_, rfl, rfl, rfl, rfl, trivial⟩, rfl, trivial, rfl, .refl _⟩, j + 1, by show x + 1 = ((j + 1 : Nat) : Int); omega, by omega, by omega, rfl, fun i u h1 h2 hu => ?_⟩
    · rw [add_i64 hA (by omega)]
      rfl
    · rcases Nat.lt_or_ge i j with h' | h'
      · exact hall i u h1 h' hu
      · obtain rfl : i = j := by omega
        rw [hxt] at hu
        cases hu
        exact hb'
end Go.Proofs.Ytbakdoienfmacaa.Tk
