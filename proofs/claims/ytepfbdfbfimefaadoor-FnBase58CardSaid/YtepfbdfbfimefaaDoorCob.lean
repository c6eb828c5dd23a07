/- Great numbers: without zeros above, how many bits, the lowest 64. -/
import Derived.Test.YtepfbdfbfimefaaDoorCoa
import Derived.Test.YtepfbdfbfimefaaDoorVval
import Derived.Test.YtepfbdfbfimefaaDoorSl
import Derived.Test.YtepfbdfbfimefaaDoorProg
import Derived.KernelRfl
-- merged
/- The types that some functions name, as the evaluator wants them. Printed by a program of my own (seatgen.py). -/
namespace Go.Proofs.YtepfbdfbfimefaaDoor.Tyco
open Go Go.Se Go.Proofs

/-- int -/
def y3 : Ty := ⟨.int .i64, 1, false, .int .i64 0, 8⟩
theorem ty3 : tyOf Tryd.prog 3 = some y3 := by kernel_rfl
/-- uint64 -/
def y33 : Ty := ⟨.int .u64, 1, false, .int .u64 0, 8⟩
theorem ty33 : tyOf Tryd.prog 33 = some y33 := by kernel_rfl
/-- big.nat -/
def y48 : Ty := ⟨.slc 68, 1, false, .slice none 0 0, 24⟩
theorem ty48 : tyOf Tryd.prog 48 = some y48 := by kernel_rfl
/-- uint32 -/
def y68 : Ty := ⟨.int .u32, 1, false, .int .u32 0, 4⟩
theorem ty68 : tyOf Tryd.prog 68 = some y68 := by kernel_rfl

/-- function 36: (pub-mintmark/pub/smallbig.nat).norm -/
def tys36 : Nat → Option Ty := fun t => find [(48, y48), (68, y68), (3, y3)] t
theorem ok36 : TysOk Tryd.prog tys36 := tysOk_of ⟨ty48, ty68, ty3, trivial⟩

/-- function 40: (pub-mintmark/pub/smallbig.nat).low64 -/
def tys40 : Nat → Option Ty := fun t => find [(48, y48), (68, y68), (3, y3), (33, y33)] t
theorem ok40 : TysOk Tryd.prog tys40 := tysOk_of ⟨ty48, ty68, ty3, ty33, trivial⟩

/-- function 46: (pub-mintmark/pub/smallbig.nat).bitLen -/
def tys46 : Nat → Option Ty := fun t => find [(48, y48), (68, y68), (3, y3)] t
theorem ok46 : TysOk Tryd.prog tys46 := tysOk_of ⟨ty48, ty68, ty3, trivial⟩
end Go.Proofs.YtepfbdfbfimefaaDoor.Tyco
set_option linter.unusedSimpArgs false
set_option linter.unusedVariables false
namespace Go.Proofs.YtepfbdfbfimefaaDoor.Co
open Go Go.Se Go.Proofs Go.Proofs.YtepfbdfbfimefaaDoor.Tyco
open Go.Proofs.YtepfbdfbfimefaaDoor.Vr (or32 or64)

theorem ix_ri {R : RO} {k : IntKind} {a : Option Addr} {n : Nat} {xs : List Int} (h : RI R k a n xs) {ofn : Int} (ho : ofn = n) {i : Int} (j : Nat) (hj : i = j) (h1 : j < n) {q : Prop} (hq : q) : Idx i ofn a q :=
  ⟨by omega, by rw [ho]; omega, (h.at_ i (by omega) (by omega)).1, hq⟩

theorem getD_get {l : List Int} {i : Nat} (h : i < l.length) : l[i]? = some (l.getD i 0) := by
  rw [List.getD_eq_getElem?_getD, List.getElem?_eq_getElem h]
  rfl

theorem pw (p : Nat) : 4294967296 ^ p = 2 ^ (32 * p) := by rw [show 4294967296 = 2 ^ 32 by decide, ← Nat.pow_mul]

structure L3 where
  a : Option Addr
  n : Nat
  c : Nat

set_option maxRecDepth 100000 in
set_option maxHeartbeats 1000000 in
theorem normP {P : Program} (hP : P = Tryd.prog) (R : RO) (a : Option Addr) (n c : Nat) (ds : List Int) (h : RI R .u32 a n ds) (hc : n ≤ c) (hn : n ≤ 100000) :
    RetP P 36 [.slice a n c] R fun R' r => ∃ a' n' c', r = .slice a' n' c' ∧ RI R' .u32 a' n' (cn (nv ds)) ∧ n' ≤ c' := by
  subst hP
  have hl := h.len
  have hdg := Dg.of_wf h.wf
  refine retP_vc (fz := []) Tryd.func36 rfl (by decide) rfl ok36 ?_
  intro P bin cmp cnv neg com bnot beq ofN toN at_ sub_ scmp cat sget ssz ssub elem fld_ hP hA
  conv => cbv
  refine ⟨L3, fun x => ⟨[(0, .v (.slice x.a x.n x.c))], R, [], 0, []⟩, fun m x => m = x.n ∧ x.n ≤ n ∧ RI R .u32 x.a x.n (ds.take x.n) ∧ nv (ds.take x.n) = nv ds ∧ x.n ≤ x.c,
    ⟨n, ⟨a, n, c⟩, ⟨⟨rfl, trivial⟩, rfl, trivial, rfl, .refl _⟩, rfl, Nat.le_refl _, by show RI R .u32 a n (ds.take n); rw [List.take_of_length_le (by omega)]; exact h, by show nv (ds.take n) = _; rw [List.take_of_length_le (by omega)], hc⟩, ?_⟩
  rintro m ⟨a1, n1, c1⟩ ⟨hm, hn1, h1, hnv, hc1⟩
  simp only at hm hn1 h1 hnv hc1
  conv => cbv
  have o1 := ofN_ hA n1
  by_cases h0 : n1 = 0
  · have cg : cmp .gtr (ofN n1) 0 = false := by rw [o1, cmp_gtr hA]; simp; omega
    simp (maxSteps := 10000000) only [cg]
    conv => cbv
    intro ρ R'' hle _ _
    have e : ds.take n1 = cn (nv ds) := by
      rw [← hnv, h0, List.take_zero, nv, cn0]
    exact ⟨a1, n1, c1, rfl, by rw [← e]; exact h1.le hle, hc1⟩
  have cg : cmp .gtr (ofN n1) 0 = true := by rw [o1, cmp_gtr hA]; simp; omega
  have es : bin .sub .i64 (ofN n1) 1 = ((n1 - 1 : Nat) : Int) := by rw [o1, sub_i64 hA (by omega)]; omega
  simp (maxSteps := 10000000) only [cg]
  conv => cbv
  refine ix_ri h1 o1 (n1 - 1) es (by omega) ?_
  refine ld_ri hA h1 (by rw [es]; omega) (by rw [es]; omega) ?_
  intro d hd hw
  rw [es] at hd
  have hd' : ds[n1 - 1]? = some d := by
    have e := getD_get (l := ds.take n1) (i := n1 - 1) (by simp; omega)
    rw [List.getElem?_take, if_pos (by omega)] at e
    rw [e, hd]
    rfl
  have htk : ds.take n1 = ds.take (n1 - 1) ++ [d] := by
    obtain ⟨j, hj⟩ : ∃ j, n1 = j + 1 := ⟨n1 - 1, by omega⟩
    rw [hj, List.take_add_one, Nat.add_sub_cancel]
    rw [hj, Nat.add_sub_cancel] at hd'
    rw [hd']
    rfl
  conv => cbv
  by_cases hd0 : d = 0
  · have ce : cmp .eql d 0 = true := by rw [cmp_eql hA]; simp; omega
    simp (maxSteps := 10000000) only [ce]
    conv => cbv
    refine ⟨0, n1 - 1, rfl, es.symm, by omega, by omega, ?_⟩
    intro a2 n2 c2 hn2 hc2 ha2
    have h2 := h1.part' (l := 0) (m := n1 - 1) (by omega) (by omega) hn2 hc1 ha2
    have e2 : ((ds.take n1).drop 0).take (n1 - 1 - 0) = ds.take n2 := by rw [List.drop_zero, List.take_take, hn2]; congr 1; omega
    rw [e2] at h2
    conv => cbv
    refine ⟨n1 - 1, ⟨a2, n2, c2⟩, by omega, ⟨⟨rfl, trivial⟩, rfl, trivial, rfl, .refl _⟩, by show n1 - 1 = n2; omega, by show n2 ≤ n; omega, h2, ?_, by show n2 ≤ c2; omega⟩
    show nv (ds.take n2) = _
    rw [← hnv, htk, nv_app, hd0, show n2 = n1 - 1 by omega]
    rfl
  · have ce : cmp .eql d 0 = false := by rw [cmp_eql hA]; simp; omega
    simp (maxSteps := 10000000) only [ce]
    conv => cbv
    intro ρ R'' hle _ _
    have e : ds.take n1 = cn (nv ds) := by
      rw [← hnv]
      refine cn_of (fun x hx => hdg x (List.mem_of_mem_take hx)) (.inr ?_)
      rw [htk]
      simpa using hd0
    exact ⟨a1, n1, c1, rfl, by rw [← e]; exact h1.le hle, hc1⟩

/-- How many bits a number has. -/
def Bl (V k : Nat) : Prop := (V = 0 ∧ k = 0) ∨ (1 ≤ k ∧ 2 ^ (k - 1) ≤ V ∧ V < 2 ^ k)

structure Lk where
  k : Int
  d : Int

set_option maxRecDepth 100000 in
set_option maxHeartbeats 1000000 in
theorem bitLenP {P : Program} (hP : P = Tryd.prog) (R : RO) (a : Option Addr) (n c V : Nat) (h : RI R .u32 a n (cn V)) (hn : n ≤ 100000) :
    RetP P 46 [.slice a n c] R fun _ r => ∃ (ki : Int) (k : Nat), r = .int .i64 ki ∧ ki = k ∧ Bl V k := by
  subst hP
  have hl := h.len
  refine retP_vc (fz := []) Tryd.func46 rfl (by decide) rfl ok46 ?_
  intro P bin cmp cnv neg com bnot beq ofN toN at_ sub_ scmp cat sget ssz ssub elem fld_ hP hA
  conv => cbv
  have o := ofN_ hA n
  by_cases h0 : n = 0
  · refine br_t (by rw [o, cmp_eql hA]; simp; omega) ?_
    conv => cbv
    intro ρ R'' _ _ _
    exact ⟨0, 0, rfl, rfl, .inl ⟨cn_nil.1 (List.eq_nil_of_length_eq_zero (by omega)), rfl⟩⟩
  refine br_f (by rw [o, cmp_eql hA]; simp; omega) ?_
  conv => cbv
  have es : bin .sub .i64 (ofN n) 1 = ((n - 1 : Nat) : Int) := by rw [o, sub_i64 hA (by omega)]; omega
  obtain ⟨p, hp⟩ : ∃ p, n = p + 1 := ⟨n - 1, by omega⟩
  have em : bin .mul .i64 32 (bin .sub .i64 (ofN n) 1) = ((32 * p : Nat) : Int) := by rw [es, mul_i64 hA (by omega)]; omega
  refine ix_ri h o (n - 1) es (by omega) ?_
  refine ld_ri hA h (by rw [es]; omega) (by rw [es]; omega) ?_
  intro d hd hw
  rw [es] at hd
  have hd' : (cn V)[p]? = some d := by
    rw [getD_get (by omega), hd]
    congr 2
    omega
  have hdv := cn_get hd'
  have hVn : V ≠ 0 := fun e => by rw [e, cn0] at hl; simp at hl; omega
  have hVl := cn_lt V
  have hVh := (cn_len V hVn).2
  rw [← hl, hp, Nat.pow_succ] at hVl
  rw [← hl, hp, Nat.add_sub_cancel] at hVh
  have hB := Nat.pow_pos (n := p) (show 0 < 4294967296 by decide)
  have hq : V / 4294967296 ^ p < 4294967296 := by rw [Nat.div_lt_iff_lt_mul hB, Nat.mul_comm]; exact hVl
  obtain ⟨D, hD⟩ : ∃ D, D = V / 4294967296 ^ p := ⟨_, rfl⟩
  rw [← hD] at hq hdv
  rw [Nat.mod_eq_of_lt hq] at hdv
  have hD0 : 1 ≤ D := by rw [hD, Nat.le_div_iff_mul_le hB]; omega
  conv => cbv
  refine ⟨Lk, fun x => ⟨[(4, .v (.int .u32 x.d)), (3, .v (.int .i64 x.k))], R, [], 0, []⟩,
    fun m x => ∃ j : Nat, x.k = (32 * p + j : Nat) ∧ x.d = (D / 2 ^ j : Nat) ∧ m = D / 2 ^ j ∧ (j = 0 ∨ D / 2 ^ (j - 1) ≠ 0) ∧ j ≤ 40,
    ⟨D, ⟨bin .mul .i64 32 (bin .sub .i64 (ofN n) 1), d⟩, ⟨⟨rfl, rfl, trivial⟩, rfl, trivial, rfl, .refl _⟩, 0, em, by show d = _; rw [hdv]; simp, by simp, .inl rfl, by omega⟩, ?_⟩
  rintro m ⟨k, dd⟩ ⟨j, hk, hdd, hm, hj, hj40⟩
  simp only at hk hdd
  conv => cbv
  by_cases hz : D / 2 ^ j = 0
  · refine br_f (by rw [cmp_neq hA, hdd, hz]; rfl) ?_
    conv => cbv
    intro ρ R'' _ _ _
    refine ⟨k, 32 * p + j, rfl, hk, .inr ?_⟩
    have hj0 : j ≠ 0 := fun e => by rw [e] at hz; simp at hz; omega
    have h1 : 2 ^ (j - 1) ≤ D := by
      rcases hj with e | e
      · exact absurd e hj0
      · exact Nat.le_of_not_lt fun e2 => e (Nat.div_eq_of_lt e2)
    have h2 : D < 2 ^ j := Nat.lt_of_not_le fun e2 => by
      have := Nat.div_pos e2 (Nat.pow_pos (show 0 < 2 by decide))
      omega
    have e1 : D * 4294967296 ^ p ≤ V := by rw [hD]; exact Nat.div_mul_le_self _ _
    have e2 : V < (D + 1) * 4294967296 ^ p := by
      have := Nat.lt_div_mul_add (a := V) hB
      rw [← hD] at this
      rw [Nat.add_mul]
      omega
    refine ⟨by omega, ?_, ?_⟩
    · rw [show 32 * p + j - 1 = (j - 1) + 32 * p by omega, Nat.pow_add, ← pw]
      exact Nat.le_trans (Nat.mul_le_mul_right _ h1) e1
    · rw [show 32 * p + j = j + 32 * p by omega, Nat.pow_add, ← pw]
      exact Nat.lt_of_lt_of_le e2 (Nat.mul_le_mul_right _ h2)
  · have hj32 : j < 32 := Nat.lt_of_not_le fun e => hz (Nat.div_eq_of_lt (Nat.lt_of_lt_of_le hq (by have := Nat.pow_le_pow_right (show 0 < 2 by decide) e; simpa using this)))
    refine br_t (by rw [cmp_neq hA, hdd]; exact bne_iff_ne.2 (Int.natCast_ne_zero.2 hz)) ?_
    conv => cbv
    have e3 : bin .shr .u32 dd 1 = ((D / 2 ^ (j + 1) : Nat) : Int) := by rw [hdd, shr_u32 hA (by decide), Nat.pow_succ, ← Nat.div_div_eq_div_mul]; show ((D / 2 ^ j : Nat) : Int) / 2 ^ 1 = _; omega
    refine ⟨by decide, ?_⟩
    have e4 : bin .add .i64 k 1 = ((32 * p + (j + 1) : Nat) : Int) := by rw [hk, add_i64 hA (by omega)]; omega
    refine ⟨D / 2 ^ (j + 1), ⟨bin .add .i64 k 1, bin .shr .u32 dd 1⟩, ?_, ⟨⟨rfl, rfl, trivial⟩, rfl, trivial, rfl, .refl _⟩, j + 1, e4, e3, rfl, .inr hz, by omega⟩
    rw [hm, Nat.pow_succ, ← Nat.div_div_eq_div_mul]
    omega

structure Lv where
  v : Int
  i : Int

set_option maxRecDepth 100000 in
set_option maxHeartbeats 1000000 in
theorem low64P {P : Program} (hP : P = Tryd.prog) (R : RO) (a : Option Addr) (n c : Nat) (xs : List Int) (h : RI R .u32 a n xs) (hn : n ≤ 100000) :
    RetP P 40 [.slice a n c] R fun _ r => ∃ w : Int, r = .int .u64 w ∧ w = (nv xs % 18446744073709551616 : Nat) := by
  subst hP
  have hl := h.len
  have hdg := Dg.of_wf h.wf
  refine retP_vc (fz := []) Tryd.func40 rfl (by decide) rfl ok40 ?_
  intro P bin cmp cnv neg com bnot beq ofN toN at_ sub_ scmp cat sget ssz ssub elem fld_ hP hA
  conv => cbv
  have o := ofN_ hA n
  refine ⟨Lv, fun x => ⟨[(4, .v (.int .i64 x.i)), (3, .v (.int .u64 x.v)), (0, .v (.slice a n c))], R, [], 0, []⟩,
    fun m x => ∃ i : Nat, x.i = i ∧ i ≤ 2 ∧ i ≤ n ∧ m = 2 - i ∧ x.v = (nv (xs.take i) : Nat), ⟨2, ⟨0, 0⟩, ⟨⟨rfl, rfl, rfl, trivial⟩, rfl, trivial, rfl, .refl _⟩, 0, rfl, by omega, by omega, rfl, rfl⟩, ?_⟩
  rintro m ⟨v, ii⟩ ⟨i, hi, h2, hin, hm, hv⟩
  simp only at hi hv
  have hlt := nv_lt (ds := xs.take i) fun x hx => hdg x (List.mem_of_mem_take hx)
  rw [List.length_take, Nat.min_eq_left (by omega)] at hlt
  have hsum : nv xs = nv (xs.take i) + 4294967296 ^ i * nv (xs.drop i) := by
    have := nv_app (xs.take i) (xs.drop i)
    rwa [List.take_append_drop, List.length_take, Nat.min_eq_left (by omega)] at this
  conv => cbv
  by_cases h1 : i < n
  case neg =>
    have cg : cmp .lss ii (ofN n) = false := by rw [o, cmp_lss hA]; simp; omega
    simp (maxSteps := 10000000) only [cg]
    conv => cbv
    intro ρ R'' _ _ _
    refine ⟨v, rfl, ?_⟩
    rw [hv, hsum, show xs.drop i = [] from List.drop_of_length_le (by omega), nv, Nat.mul_zero, Nat.add_zero]
    have : nv (xs.take i) < 18446744073709551616 := by
      refine Nat.lt_of_lt_of_le hlt ?_
      have := Nat.pow_le_pow_right (show 0 < 4294967296 by decide) h2
      simpa using this
    rw [Nat.mod_eq_of_lt this]
  have cg : cmp .lss ii (ofN n) = true := by rw [o, cmp_lss hA]; simp; omega
  simp (maxSteps := 10000000) only [cg]
  conv => cbv
  by_cases h3 : i = 2
  · refine br_f (by rw [cmp_lss hA]; simp; omega) ?_
    conv => cbv
    intro ρ R'' _ _ _
    refine ⟨v, rfl, ?_⟩
    rw [hv, hsum]
    rw [h3] at hlt ⊢
    simp only [Nat.reducePow] at hlt ⊢
    rw [Nat.add_mul_mod_self_left, Nat.mod_eq_of_lt hlt]
  refine br_t (by rw [cmp_lss hA]; simp; omega) ?_
  conv => cbv
  refine ix_ri h o i hi h1 ?_
  refine ld_ri hA h (by omega) (by omega) ?_
  intro d hd hw
  have hd' : xs[i]? = some d := by
    rw [getD_get (by omega), hd]
    congr 2
    omega
  have hdr := hdg d (List.mem_of_getElem? hd')
  conv => cbv
  obtain ⟨D, hD⟩ : ∃ D : Nat, d = D := ⟨d.toNat, by omega⟩
  have em : bin .mul .i64 32 ii = ((32 * i : Nat) : Int) := by rw [hi, mul_i64 hA (by omega)]; omega
  have ec : cnv .u64 d = (D : Int) := by rw [cnv_u64 hA (by omega), hD]
  have hp2 : (4294967296 : Nat) ^ i = 2 ^ (32 * i) := pw i
  have hb : nv (xs.take i) + D * 2 ^ (32 * i) < 18446744073709551616 := by
    rw [hp2] at hlt
    have hi01 : i = 0 ∨ i = 1 := by omega
    rcases hi01 with e | e <;> (rw [e] at hlt ⊢; simp only [Nat.reduceMul, Nat.reducePow] at hlt ⊢; omega)
  have ee : bin .or .u64 v (bin .shl .u64 (cnv .u64 d) (bin .mul .i64 32 ii)) = ((nv (xs.take (i + 1)) : Nat) : Int) := by
    rw [ec, hv, or64 hA (s := 32 * i) (by rw [← hp2]; exact hlt) (by omega) hb em, List.take_add_one, hd', nv_app, List.length_take, Nat.min_eq_left (by omega), hp2]
    show _ = ((nv (xs.take i) + 2 ^ (32 * i) * (d.toNat + 4294967296 * 0) : Nat) : Int)
    rw [hD, Int.toNat_natCast, Nat.mul_zero, Nat.add_zero, Nat.mul_comm D]
  refine ⟨by rw [em]; omega, ?_⟩
  refine ⟨2 - (i + 1), ⟨bin .or .u64 v (bin .shl .u64 (cnv .u64 d) (bin .mul .i64 32 ii)), bin .add .i64 ii 1⟩, by omega, ⟨⟨rfl, rfl, rfl, trivial⟩, rfl, trivial, rfl, .refl _⟩, i + 1, by show bin .add .i64 ii 1 = _; rw [hi, add_i64 hA (by omega)]; rfl, by omega, by omega, rfl, ee⟩
end Go.Proofs.YtepfbdfbfimefaaDoor.Co
