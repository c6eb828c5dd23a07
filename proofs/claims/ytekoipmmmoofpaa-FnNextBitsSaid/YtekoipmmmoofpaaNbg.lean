/- Great numbers by the reference: what a compact number stands for. -/
import Derived.Test.YtekoipmmmoofpaaNbf
import Derived.Test.YtekoipmmmoofpaaSl
import Derived.Test.YtekoipmmmoofpaaProg
import Derived.KernelRfl
-- merged
/- The types that some functions name, as the evaluator wants them. Printed by a program of my own (seatgen.py). -/
namespace Go.Proofs.Ytekoipmmmoofpaa.Tynh
open Go Go.Se Go.Proofs

/-- int -/
def y3 : Ty := ⟨.int .i64, 1, false, .int .i64 0, 8⟩
theorem ty3 : tyOf Try.prog 3 = some y3 := by kernel_rfl
/-- uint8 -/
def y5 : Ty := ⟨.int .u8, 1, false, .int .u8 0, 1⟩
theorem ty5 : tyOf Try.prog 5 = some y5 := by kernel_rfl
/-- []uint8 -/
def y22 : Ty := ⟨.slc 5, 1, false, .slice none 0 0, 24⟩
theorem ty22 : tyOf Try.prog 22 = some y22 := by kernel_rfl
/-- uint32 -/
def y23 : Ty := ⟨.int .u32, 1, false, .int .u32 0, 4⟩
theorem ty23 : tyOf Try.prog 23 = some y23 := by kernel_rfl
/-- uint64 -/
def y53 : Ty := ⟨.int .u64, 1, false, .int .u64 0, 8⟩
theorem ty53 : tyOf Try.prog 53 = some y53 := by kernel_rfl

/-- function 10: pub-mintmark/spec.Target -/
def tys10 : Nat → Option Ty := fun t => find [(23, y23), (53, y53), (3, y3), (5, y5), (22, y22)] t
theorem ok10 : TysOk Try.prog tys10 := tysOk_of ⟨ty23, ty53, ty3, ty5, ty22, trivial⟩
end Go.Proofs.Ytekoipmmmoofpaa.Tynh
set_option linter.unusedSimpArgs false
set_option linter.unusedVariables false
namespace Go.Proofs.Ytekoipmmmoofpaa.Co
open Go Go.Se Go.Proofs Go.Proofs.Ytekoipmmmoofpaa.Ht Go.Proofs.Ytekoipmmmoofpaa.Tynh

/-- What bits stand for. -/
def tgb (E M : Nat) : Nat := if E ≤ 3 then M / 256 ^ (3 - E) else M * 256 ^ (E - 3)

theorem be3 (M : Nat) (h : M < 16777216) : be [((M / 65536 : Nat) : Int), ((M / 256 % 256 : Nat) : Int), ((M % 256 : Nat) : Int)] = M := by
  rw [be_cons, be_cons, be_cons]
  show _ * 256 ^ 2 + (_ * 256 ^ 1 + (_ * 256 ^ 0 + 0)) = M
  simp only [Int.toNat_natCast]
  omega

theorem and23' {x : Nat} (h : x / 8388608 % 2 = 1) : x &&& 8388608 ≠ 0 := fun h0 => by
  have h3 := congrArg (fun x => Nat.testBit x 23) h0
  simp only [Nat.testBit_and, Nat.zero_testBit] at h3
  have h4 : Nat.testBit x 23 = true := by rw [Nat.testBit_eq_decide_div_mod_eq]; exact decide_eq_true (by omega)
  rw [h4] at h3
  exact absurd h3 (by decide)

theorem and23'' {x : Nat} (h : x / 8388608 % 2 = 0) : x &&& 8388608 = 0 := by
  apply Nat.eq_of_testBit_eq
  intro i
  rw [Nat.testBit_and, Nat.zero_testBit]
  by_cases e : i = 23
  · subst e
    have h4 : Nat.testBit x 23 = false := by rw [Nat.testBit_eq_decide_div_mod_eq]; exact decide_eq_false (by omega)
    rw [h4]
    rfl
  · rw [show 8388608 = 2 ^ 23 by decide, Nat.testBit_two_pow_of_ne (Ne.symm e), Bool.and_false]

/-- Bytes, the lowest of them cut off. -/
theorem be_cut (xs : List Int) (i : Nat) (h : By xs) (hi : i ≤ xs.length) : be (xs.take i) = be xs / 256 ^ (xs.length - i) := by
  have e : be xs = be (xs.take i) * 256 ^ (xs.length - i) + be (xs.drop i) := by
    have := lev_app (xs.drop i).reverse (xs.take i).reverse
    rw [← List.reverse_append, List.take_append_drop, List.length_reverse, List.length_drop] at this
    rw [be, be, be, this, Nat.mul_comm, Nat.add_comm]
  have hl : be (xs.drop i) < 256 ^ (xs.length - i) := by
    have := be_lt (xs := xs.drop i) fun x hx => h x (List.mem_of_mem_drop hx)
    rwa [List.length_drop] at this
  rw [e, Nat.mul_comm, Nat.mul_add_div (Nat.pow_pos (by decide)), Nat.div_eq_of_lt hl, Nat.add_zero]

structure Lg where
  i : Int
  a : Option Addr
  n : Nat
  c : Nat
  zs : List Value
  rs : List Row

theorem RI.take {R : RO} {k : IntKind} {a : Option Addr} {n : Nat} {xs : List Int} (h : RI R k a n xs) {m : Nat} (hm : m ≤ n) : RI R k a m (xs.take m) := by
  have hl := h.len
  refine ⟨by simp; omega, fun i h0 h1 => ?_, fun x hx => h.wf x (List.mem_of_mem_take hx)⟩
  obtain ⟨h2, h3⟩ := h.at_ i h0 (by omega)
  refine ⟨h2, ?_⟩
  rw [h3]
  congr 2
  rw [List.getD_eq_getElem?_getD, List.getD_eq_getElem?_getD, List.getElem?_take, if_pos (by omega)]


set_option maxRecDepth 100000 in
set_option maxHeartbeats 4000000 in
theorem targetS {P : Program} (hP : P = Try.prog) (R : RO) (bits E M : Nat) (bi : Int) (hbi : bi = bits) (hE : E = bits / 16777216) (hM : M = bits % 8388608) (hb32 : bits < 4294967296) (T : Nat) (hT : T = tgb E M) :
    RetP P 10 [.int .u32 bi] R fun R' r => ∃ a n c bl, r = .tuple #[.slice a n c, .bool bl] ∧ RI R' .u8 a n (dl T).reverse ∧ n ≤ c ∧ (bl = true ↔ bits / 8388608 % 2 = 1 ∧ T ≠ 0) := by
  subst hP
  refine retP_vc (fz := [834]) Try.func10 rfl (by decide) rfl ok10 ?_
  intro P bin cmp cnv neg com bnot beq ofN toN at_ sub_ scmp cat sget ssz ssub elem fld_ hP hA
  conv => cbv
  refine ⟨by decide, ?_⟩
  have em : cnv .u64 (bin .rem .u32 bi 8388608) = (M : Int) := by
    have e1 : bin .rem .u32 bi 8388608 = (M : Int) := by rw [hbi, rem_u32 hA (by omega)]; omega
    rw [e1]
    exact cnv_u64 hA (by omega)
  have ee : cnv .i64 (bin .shr .u32 bi 24) = (E : Int) := by
    have e1 : bin .shr .u32 bi 24 = (E : Int) := by
      rw [hbi, shr_u32 hA (by decide)]
      show (bits : Int) / 2 ^ 24 = _
      omega
    rw [e1]
    exact cnv_i64 hA (by omega)
  have es : cmp .neq (bin .and .u32 bi 8388608) 0 = decide (bits / 8388608 % 2 = 1) := by
    have e1 : bin .and .u32 bi 8388608 = ((bits &&& 8388608 : Nat) : Int) := by rw [hbi]; exact and_u32 hA (y := 8388608) (by omega) (by decide)
    rw [e1, cmp_neq hA]
    by_cases h : bits / 8388608 % 2 = 1
    · rw [decide_eq_true h]
      exact bne_iff_ne.2 (Int.natCast_ne_zero.2 (and23' h))
    · rw [decide_eq_false h, and23'' (by omega)]
      rfl
  refine ⟨by decide, ?_⟩
  have hMl : M < 16777216 := by omega
  have hE255 : E ≤ 255 := by omega
  obtain ⟨D, hD⟩ : ∃ D : List Int, D = [((M / 65536 : Nat) : Int), ((M / 256 % 256 : Nat) : Int), ((M % 256 : Nat) : Int)] := ⟨_, rfl⟩
  have hDb : By D := fun x hx => by
    rw [hD] at hx
    simp only [List.mem_cons, List.not_mem_nil, or_false] at hx
    rcases hx with rfl | rfl | rfl <;> omega
  have hDl : D.length = 3 := by rw [hD]; rfl
  refine ⟨Lg, fun x => ⟨[(7, .v (.int .i64 x.i)), (6, .v (.slice x.a x.n x.c)), (4, .v (.int .u64 (cnv .u64 (bin .rem .u32 bi 8388608)))), (5, .v (.int .i64 (cnv .i64 (bin .shr .u32 bi 24)))), (3, .v (.bool (cmp .neq (bin .and .u32 bi 8388608) 0)))], R, [], 0, x.rs⟩,
    fun m x => x.i = (m : Int) - 1 ∧ m ≤ 3 ∧ Base1 x.rs [] x.a x.n x.c 5 1 x.zs ∧ x.zs = ints .u8 (D.take (3 - m)) ∧ x.n = 3 - m ∧ (x.n ≠ 0 → x.a.isSome = true),
    ⟨3, ⟨2, none, 0, 0, [], []⟩, ⟨⟨rfl, rfl, rfl, rfl, rfl, trivial⟩, rfl, trivial, rfl, .refl _⟩, rfl, by omega, Base1.nil, rfl, rfl, fun e => absurd rfl e⟩, ?_⟩
  rintro m ⟨ii, a1, n1, c1, zs, rs⟩ ⟨hi, hm, hb, hzs, hn1, hsm⟩
  simp only at hi hb hzs hn1 hsm
  conv => cbv
  by_cases h0 : m = 0
  case neg =>
    refine br_t (by rw [cmp_geq hA]; simp; omega) ?_
    conv => cbv
    obtain ⟨k, hk⟩ : ∃ k, m = k + 1 := ⟨m - 1, by omega⟩
    have e8 : bin .mul .i64 8 ii = ((8 * k : Nat) : Int) := by rw [hi, mul_i64 hA (by omega)]; omega
    refine ⟨by rw [e8]; omega, ?_⟩
    have hb1 : D[3 - m]? = some (cnv .u8 (bin .shr .u64 (cnv .u64 (bin .rem .u32 bi 8388608)) (bin .mul .i64 8 ii))) := by
      rw [em, e8, shn_u64 hA (by omega), cu8 (cnv_is hA), hD]
      have hk3 : k = 0 ∨ k = 1 ∨ k = 2 := by omega
      rcases hk3 with rfl | rfl | rfl
      · rw [hk]; simp
      · rw [hk]; simp
      · rw [hk]; simp; omega
    refine ⟨n1, zs, _, _, _, 1, [.int .u8 (cnv .u8 (bin .shr .u64 (cnv .u64 (bin .rem .u32 bi 8388608)) (bin .mul .i64 8 ii)))], hb.base, .refl _, .own _ _ _ _ _ _ rfl rfl rfl (by simp [Value.oneCell']), by omega, by omega, ?_⟩
    intro a' n' c' zs' hn' hz' hs'
    conv => cbv
    have hk3 : k ≤ 3 := by omega
    have hkn : n' = 3 - k := by rw [hn', hn1]; show 3 - m + 1 = _; omega
    have hki : bin .sub .i64 ii 1 = (k : Int) - 1 := by rw [hi, sub_i64 hA (by omega)]; omega
    refine ⟨k, ⟨bin .sub .i64 ii 1, a', n', c', zs', _⟩, by omega, ⟨⟨rfl, rfl, rfl, rfl, rfl, trivial⟩, rfl, trivial, rfl, .refl _⟩, hki, hk3, Base1.row, ?_, hkn, hs'⟩
    show zs' = _
    rw [hz', hzs, show 3 - k = (3 - m) + 1 by omega, List.take_add_one, hb1, ← ints_app]
    rfl
  refine br_f (by rw [cmp_geq hA]; simp; omega) ?_
  conv => cbv
  have hn3 : n1 = 3 := by omega
  rw [h0, Nat.sub_zero, List.take_of_length_le (by omega)] at hzs
  rcases hb with ⟨_, e, _⟩ | rfl
  · omega
  by_cases h3 : E ≤ 3
  · refine br_t (by rw [ee, cmp_leq hA]; simp; omega) ?_
    conv => cbv
    obtain ⟨j, hj⟩ := Option.isSome_iff_exists.1 (show (Try.prog.info? 5).isSome = true by kernel_rfl)
    refine raw_slice_row (r := ⟨a1, n1, c1, 5, 1, zs⟩) (h := E) rfl rfl rfl ee (List.mem_cons_self ..) (by show E ≤ n1; omega) (by rw [hP]; exact Try.underlying22) (by rw [hP]; exact hj) ?_
    conv => cbv
    refine ⟨Unit, fun _ => ⟨[(8, .v (.int .i64 3)), (6, .v (.slice a1 E c1)), (5, .v (.int .i64 (cnv .i64 (bin .shr .u32 bi 24)))), (3, .v (.bool (cmp .neq (bin .and .u32 bi 8388608) 0)))], R, [], 0, [⟨a1, n1, c1, 5, 1, zs⟩]⟩, fun m _ => m = 0, ⟨0, (), ⟨⟨rfl, rfl, rfl, rfl, trivial⟩, rfl, trivial, rfl, .refl _⟩, rfl⟩, ?_⟩
    rintro m2 _ hm2
    conv => cbv
    refine br_f (by rw [ee, cmp_lss hA]; simp; omega) ?_
    conv => cbv
    refine CallP.pub 0 rfl (fun R1 hR1 hp1 => ?_) ⟨_, by rw [hP]; exact Try.func19, by decide, rfl⟩
    have hr1 : RI R1 .u8 a1 n1 D := hp1.ri (by show n1 = _; omega) hsm rfl hzs hDb.wf
    have hcap : n1 ≤ c1 := hp1.cap_ hsm
    have TE : be (D.take E) = T := by rw [be_cut D E hDb (by omega), hDl, hD, be3 M hMl, hT, tgb, if_pos h3]
    refine (trimP hP R1 a1 E c1 (D.take E) (RI.take hr1 (by omega)) (by omega) (by omega)).callP rfl ?_
    rintro R2 _ hR2 ⟨a', n', c', rfl, hr, hc'⟩
    conv => cbv
    have on := ofN_ hA n'
    have hn' := hr.len
    by_cases hS : bits / 8388608 % 2 = 1
    · rw [decide_eq_true hS] at es
      simp (maxSteps := 10000000) only [es]
      conv => cbv
      by_cases hT0 : T = 0
      · have cg : cmp .gtr (ofN n') 0 = false := by rw [on, cmp_gtr hA]; refine decide_eq_false ?_; rw [hn', TE, hT0, dl0]; simp
        simp (maxSteps := 10000000) only [cg]
        conv => cbv
        intro ρ R'' hle _ _
        exact ⟨a', n', c', false, rfl, by rw [TE] at hr; exact hr.le hle, hc', ⟨(fun e => by cases e), fun e => absurd hT0 e.2⟩⟩
      have hlT := (dl_len T hT0).1
      have cg : cmp .gtr (ofN n') 0 = true := by rw [on, cmp_gtr hA]; refine decide_eq_true ?_; rw [hn', TE, List.length_reverse]; omega
      simp (maxSteps := 10000000) only [cg]
      conv => cbv
      intro ρ R'' hle _ _
      exact ⟨a', n', c', true, rfl, by rw [TE] at hr; exact hr.le hle, hc', ⟨fun _ => ⟨hS, hT0⟩, fun _ => rfl⟩⟩
    rw [decide_eq_false hS] at es
    simp (maxSteps := 10000000) only [es]
    conv => cbv
    intro ρ R'' hle _ _
    exact ⟨a', n', c', false, rfl, by rw [TE] at hr; exact hr.le hle, hc', ⟨(fun e => by cases e), fun e => absurd e.1 hS⟩⟩
  refine br_f (by rw [ee, cmp_leq hA]; simp; omega) ?_
  conv => cbv
  refine ⟨Lg, fun x => ⟨[(8, .v (.int .i64 x.i)), (6, .v (.slice x.a x.n x.c)), (5, .v (.int .i64 (cnv .i64 (bin .shr .u32 bi 24)))), (3, .v (.bool (cmp .neq (bin .and .u32 bi 8388608) 0)))], R, [], 0, [⟨x.a, x.n, x.c, 5, 1, x.zs⟩]⟩,
    fun m x => ∃ i : Nat, x.i = i ∧ 3 ≤ i ∧ i ≤ E ∧ m = E - i ∧ x.zs = ints .u8 (D ++ List.replicate (i - 3) 0) ∧ x.n = i ∧ (x.n ≠ 0 → x.a.isSome = true),
    ⟨E - 3, ⟨3, a1, n1, c1, zs, []⟩, ⟨⟨rfl, rfl, rfl, rfl, trivial⟩, rfl, trivial, rfl, .refl _⟩, 3, rfl, by omega, by omega, rfl, by show zs = _; rw [hzs]; simp, hn3, hsm⟩, ?_⟩
  rintro m2 ⟨i2, a2, n2, c2, z2, rs2⟩ ⟨i, hi2, hi3, hiE, hm2, hz2, hn2, hs2⟩
  simp only at hi2 hz2 hn2 hs2
  conv => cbv
  by_cases hlt : i < E
  · refine br_t (by rw [ee, cmp_lss hA]; simp; omega) ?_
    conv => cbv
    refine ⟨n2, z2, _, _, _, 1, [.int .u8 0], .row 0 ⟨a2, n2, c2, 5, 1, z2⟩ rfl rfl rfl, .refl _, .own _ _ _ _ _ _ rfl rfl rfl (by simp [Value.oneCell']), by omega, by omega, ?_⟩
    intro a' n' c' zs' hn' hz' hs'
    conv => cbv
    refine ⟨E - (i + 1), ⟨bin .add .i64 i2 1, a', n', c', zs', []⟩, by omega, ⟨⟨rfl, rfl, rfl, rfl, trivial⟩, rfl, trivial, rfl, .refl _⟩, i + 1, by show bin .add .i64 i2 1 = _; rw [hi2, add_i64 hA (by omega)]; rfl, by omega, by omega, rfl, ?_, by show n' = _; omega, hs'⟩
    show zs' = _
    rw [hz', hz2, show i + 1 - 3 = (i - 3) + 1 by omega, List.replicate_succ', ← List.append_assoc, ← ints_app (k := .u8) (D ++ List.replicate (i - 3) 0) [0]]
    rfl
  refine br_f (by rw [ee, cmp_lss hA]; simp; omega) ?_
  conv => cbv
  refine CallP.pub 0 rfl (fun R1 hR1 hp1 => ?_) ⟨_, by rw [hP]; exact Try.func19, by decide, rfl⟩
  have hby2 : By (D ++ List.replicate (i - 3) 0) := fun x hx => by
    rcases List.mem_append.1 hx with hx | hx
    · exact hDb x hx
    · rw [List.eq_of_mem_replicate hx]; omega
  have hr1 : RI R1 .u8 a2 n2 (D ++ List.replicate (i - 3) 0) := hp1.ri (by show n2 = _; rw [List.length_append, hDl, List.length_replicate]; omega) hs2 rfl hz2 hby2.wf
  have hcap : n2 ≤ c2 := hp1.cap_ hs2
  have TE : be (D ++ List.replicate (i - 3) 0) = T := by
    have e1 : be (D ++ List.replicate (i - 3) 0) = be D * 256 ^ (i - 3) := by
      rw [be, List.reverse_append, lev_app, List.length_reverse, List.length_replicate, List.reverse_replicate, be]
      have e2 : lev (List.replicate (i - 3) 0) = 0 := by
        have := be_zero (i - 3)
        rwa [be, List.reverse_replicate] at this
      rw [e2, Nat.zero_add, Nat.mul_comm]
    rw [e1, hD, be3 M hMl, hT, tgb, if_neg h3, show i = E by omega]
  refine (trimP hP R1 a2 n2 c2 _ hr1 hcap (by omega)).callP rfl ?_
  rintro R2 _ hR2 ⟨a', n', c', rfl, hr, hc'⟩
  conv => cbv
  have on := ofN_ hA n'
  have hn' := hr.len
  by_cases hS : bits / 8388608 % 2 = 1
  · rw [decide_eq_true hS] at es
    simp (maxSteps := 10000000) only [es]
    conv => cbv
    by_cases hT0 : T = 0
    · have cg : cmp .gtr (ofN n') 0 = false := by rw [on, cmp_gtr hA]; refine decide_eq_false ?_; rw [hn', TE, hT0, dl0]; simp
      simp (maxSteps := 10000000) only [cg]
      conv => cbv
      intro ρ R'' hle _ _
      exact ⟨a', n', c', false, rfl, by rw [TE] at hr; exact hr.le hle, hc', ⟨(fun e => by cases e), fun e => absurd hT0 e.2⟩⟩
    have hlT := (dl_len T hT0).1
    have cg : cmp .gtr (ofN n') 0 = true := by rw [on, cmp_gtr hA]; refine decide_eq_true ?_; rw [hn', TE, List.length_reverse]; omega
    simp (maxSteps := 10000000) only [cg]
    conv => cbv
    intro ρ R'' hle _ _
    exact ⟨a', n', c', true, rfl, by rw [TE] at hr; exact hr.le hle, hc', ⟨fun _ => ⟨hS, hT0⟩, fun _ => rfl⟩⟩
  rw [decide_eq_false hS] at es
  simp (maxSteps := 10000000) only [es]
  conv => cbv
  intro ρ R'' hle _ _
  exact ⟨a', n', c', false, rfl, by rw [TE] at hr; exact hr.le hle, hc', ⟨(fun e => by cases e), fun e => absurd e.1 hS⟩⟩
end Go.Proofs.Ytekoipmmmoofpaa.Co
