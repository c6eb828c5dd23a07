/- Groups of bits put into groups of other width, by the body. -/
import Derived.Test.YtclkimgpdnldnaaAdra
import Derived.Test.YtclkimgpdnldnaaAdrp
set_option linter.unusedSimpArgs false
set_option linter.unusedVariables false
namespace Go.Proofs.Ytclkimgpdnldnaa.Adr
open Go Go.Se Go.Proofs

/-- Bytes as whole numbers. -/
def up (xs : List Nat) : List Int := xs.map fun (x : Nat) => (x : Int)

theorem up_len (xs : List Nat) : (up xs).length = xs.length := by simp [up]
theorem up_app (xs ys : List Nat) : up (xs ++ ys) = up xs ++ up ys := by simp [up]
theorem up_get {xs : List Nat} {i : Nat} (h : i < xs.length) : (up xs).getD i 0 = (xs[i] : Nat) := by simp [up, List.getD_eq_getElem?_getD, h]
theorem up_wf {xs : List Nat} (h : ∀ x ∈ xs, x < 256) : ∀ x ∈ up xs, (Lit.int .u8 x).wf = true := fun x hx => by
  obtain ⟨y, hy, rfl⟩ := List.mem_map.1 hx
  have := h y hy
  simp [Lit.wf, IntKind.min, IntKind.max, IntKind.bits, IntKind.signed]
  omega

/-- One value that lies in a block of its own. -/
theorem src_one {s : St} {b T c : Nat} {v : Value} (h : s.R b = some (.cells #[v] T (0, 0))) (h1 : v.oneCell' = true) : SrcK s 1 (.v (.slice (some ⟨b, 0, none⟩) 1 c)) 1 [v] := by
  refine .raw ⟨b, 0, none⟩ 1 c [v] rfl (fun j u hu => .inl ?_) (fun u hu => by simp at hu; rw [hu]; exact h1)
  cases j with
  | zero => simp at hu; subst hu; simp [Addr.add, rcell, h]
  | succ j => simp at hu

structure Lp where
  R : RO
  i : Int
  a : Option Addr
  n : Nat
  c : Nat
  zs : List Value
  nb : Int
  fb : Int
  b : Int
  rem : Int

set_option maxRecDepth 100000 in
set_option maxHeartbeats 600000 in
theorem conv {P : Program} (hP : P = Try.prog) (R : RO) (a : Option Addr) (n cap f t : Nat) (pad : Bool) (xs : List Nat) (h : RI R .u8 a n (up xs)) (hf0 : 0 < f) (hf : f ≤ 8) (ht0 : 0 < t) (ht : t ≤ 8) (hx : ∀ x ∈ xs, x < 2 ^ f) (h7 : f ≤ 7 ∨ t ≤ 7)
    (hn : n ≤ 1000000000) : RetP P 56 [.slice a n cap, .int .u8 f, .int .u8 t, .bool pad] R fun R' v => ∃ ys fb nb, Ce f t xs ys fb nb ∧ ∃ a' n' c' er, v = .tuple #[.slice a' n' c', er] ∧
      ((er = .nilIface ∧ n' ≤ 10 * n + 10 ∧ RI R' .u8 a' n' (up (if pad = true ∧ fb ≠ 0 then ys ++ [nb * 2 ^ (t - fb)] else ys))) ∨
        ((∃ T x, er = .iface T x) ∧ pad = false ∧ ¬ (nb = 0 ∧ fb ≤ 4))) := by
  subst hP
  have hl := h.len
  rw [up_len] at hl
  generalize hfi : (f : Int) = fi
  generalize hti : (t : Int) = ti
  refine retP_vc (fz := [89, 104]) Try.func56 rfl (by decide) rfl ok56 ?_
  intro P bin cmp cnv neg com bnot beq ofN toN at_ sub_ scmp cat sget ssz ssub elem fld_ hP hA
  conv => cbv
  have o := ofN_ hA n
  have q1 : cmp .lss fi 1 = false := by rw [cmp_lss hA]; simp; omega
  have q2 : cmp .gtr fi 8 = false := by rw [cmp_gtr hA]; simp; omega
  have q3 : cmp .lss ti 1 = false := by rw [cmp_lss hA]; simp; omega
  have q4 : cmp .gtr ti 8 = false := by rw [cmp_gtr hA]; simp; omega
  simp only [q1]
  conv => cbv
  simp only [q2]
  conv => cbv
  simp only [q3]
  conv => cbv
  simp only [q4]
  conv => cbv
  have d1 : cnv .i64 fi = f := by rw [← hfi]; exact cnv_i64 hA (by omega)
  have d2 : cnv .i64 ti = t := by rw [← hti]; exact cnv_i64 hA (by omega)
  have hnf : n * f ≤ n * 8 := Nat.mul_le_mul_left _ hf
  have d3 : bin .mul .i64 (ofN n) (cnv .i64 fi) = ((n * f : Nat) : Int) := by rw [d1, o, mul_i64 hA (by rw [← Int.natCast_mul]; omega)]; simp
  have hdv : n * f / t ≤ n * 8 := Nat.le_trans (Nat.div_le_self _ _) hnf
  obtain ⟨q, hq⟩ : ∃ q, q = n * f / t := ⟨_, rfl⟩
  rw [← hq] at hdv
  have d4 : bin .quo .i64 (bin .mul .i64 (ofN n) (cnv .i64 fi)) (cnv .i64 ti) = (q : Int) := by rw [d3, d2, quo_i64 hA (by omega) (by omega) (by omega), hq]; simp
  have d5 : bin .add .i64 (bin .quo .i64 (bin .mul .i64 (ofN n) (cnv .i64 fi)) (cnv .i64 ti)) 1 = (q : Int) + 1 := by rw [d4]; exact add_i64 hA (by omega)
  refine ⟨by rw [d2]; omega, ⟨by decide, by rw [d5]; omega, by rw [d5]; omega, by rw [d5]; omega, ?_⟩⟩
  intro a0 n0 c0 z0 hn0 hc0 hz0
  conv => cbv
  have hn0 : n0 = 0 := by omega
  rw [hn0] at hz0
  simp only [List.replicate_zero, List.flatten_nil] at hz0
  refine ⟨Lp, fun x => ⟨[(48, .v (.int .i64 x.i)), (47, .v (.int .i64 (ofN n))), (46, .v (.slice a n cap)), (11, .v (.slice x.a x.n x.c)), (12, .v (.int .u8 x.nb)), (13, .v (.int .u8 x.fb)), (1, .v (.int .u8 fi)), (2, .v (.int .u8 ti)), (3, .v (.bool pad))],
      x.R, [], 0, [⟨x.a, x.n, x.c, 5, 1, x.zs⟩]⟩,
    fun k x => ∃ (j : Nat) (ys : List Nat) (fb nb : Nat), x.i = j ∧ j ≤ n ∧ k = n - j ∧ R.le x.R ∧ Ce f t (xs.take j) ys fb nb ∧ x.nb = nb ∧ x.fb = fb ∧ x.zs = ints .u8 (up ys) ∧ x.n = ys.length ∧ (x.n ≠ 0 → x.a.isSome = true),
    ⟨n, ⟨R, 0, some a0, n0, c0, z0, 0, 0, 0, 0⟩, ⟨⟨rfl, rfl, rfl, rfl, rfl, rfl, rfl, rfl, rfl, trivial⟩, rfl, trivial, rfl, rfl⟩, 0, [], 0, 0, rfl, by omega, rfl, RO.le_refl _, Ce.nil ht0, rfl, rfl, hz0, hn0, fun _ => rfl⟩, ?_⟩
  rintro k ⟨R1, i, a1, n1, c1, zs, nbI, fbI, b0, r0⟩ ⟨j, ys, fb, nb, hi, hj, hk, hR1, hce, hnb, hfb, hzs, hn1, ha1⟩
  simp only at hi hR1 hnb hfb hzs hn1 ha1
  conv => cbv
  by_cases hlt : j < n
  · refine br_t (by rw [o, cmp_lss hA]; simp; omega) ?_
    conv => cbv
    have hjx : j < xs.length := by omega
    refine ix_u8 hA h j hi (by omega) ?_
    refine ld_u8 hA (h.le hR1) (by omega) (by omega) ?_
    intro y hy y0 y1
    rw [hi, Int.toNat_natCast, up_get hjx] at hy
    have hyf := hx xs[j] (List.getElem_mem hjx)
    generalize hyn : xs[j] = yn at hy hyf
    conv => cbv
    have s1 : bin .sub .u8 8 fi = ((8 - f : Nat) : Int) := by rw [← hfi, sub_u8 hA (by omega)]; omega
    have s2 : bin .shl .u8 y (bin .sub .u8 8 fi) = ((yn * 2 ^ (8 - f) % 256 : Nat) : Int) := by rw [s1, hy]; exact shw_u8 hA (by omega)
    refine ⟨by rw [s1]; omega, ?_⟩
    have hcb := hce.next (y := yn) hyf hf
    generalize hb0 : yn * 2 ^ (8 - f) % 256 = bb at s2 hcb
    refine ⟨Lp, fun x => ⟨[(15, .v (.int .u8 x.b)), (16, .v (.int .u8 x.rem)), (48, .v (.int .i64 i)), (47, .v (.int .i64 (ofN n))), (46, .v (.slice a n cap)), (11, .v (.slice x.a x.n x.c)), (12, .v (.int .u8 x.nb)), (13, .v (.int .u8 x.fb)), (1, .v (.int .u8 fi)), (2, .v (.int .u8 ti)), (3, .v (.bool pad))],
        x.R, [], 0, [⟨x.a, x.n, x.c, 5, 1, x.zs⟩]⟩,
      fun k x => ∃ (ys : List Nat) (fb nb b : Nat), x.rem = k ∧ x.b = b ∧ R.le x.R ∧ Cb f t (vl f (xs.take j)) (xs.take j).length yn k b ys fb nb ∧ x.nb = nb ∧ x.fb = fb ∧ x.zs = ints .u8 (up ys) ∧ x.n = ys.length ∧ (x.n ≠ 0 → x.a.isSome = true),
      ⟨f, ⟨R1, i, a1, n1, c1, zs, nbI, fbI, bin .shl .u8 y (bin .sub .u8 8 fi), fi⟩, ⟨⟨rfl, rfl, rfl, rfl, rfl, rfl, rfl, rfl, rfl, rfl, rfl, trivial⟩, rfl, trivial, rfl, rfl⟩, ys, fb, nb, bb, hfi.symm, s2, hR1, hcb, hnb, hfb, hzs, hn1, ha1⟩, ?_⟩
    clear hcb hce hR1 hnb hfb hzs hn1 ha1 hb0 s2
    clear fb nb ys bb
    rintro rem ⟨R2, i2, a2, n2, c2, zs2, nbI, fbI, bI, remI⟩ ⟨ys, fb, nb, b, hrem, hb, hR2, hcb, hnb, hfb, hzs, hn2, ha2⟩
    simp only at hrem hb hR2 hnb hfb hzs hn2 ha2
    conv => cbv
    have hbd : ys.length ≤ 10 * n + 8 := by
      have h1 := hcb.hc
      have h2 : 1 * ys.length ≤ t * ys.length := Nat.mul_le_mul_right _ ht0
      have h3 : f * (xs.take j).length ≤ 8 * (xs.take j).length := Nat.mul_le_mul_right _ hf
      have h4 : (xs.take j).length ≤ n := by simp; omega
      omega
    have hr1 := hcb.hr
    have hft := hcb.ft
    by_cases hz : 0 < rem
    · refine br_t (by rw [cmp_gtr hA]; simp; omega) ?_
      conv => cbv
      have w1 : bin .sub .u8 ti fbI = ((t - fb : Nat) : Int) := by rw [← hti, hfb, sub_u8 hA (by omega)]; omega
      refine br_of (fun hc => ?_) (fun hc => ?_)
      · rw [w1, cmp_lss hA, hrem] at hc
        have he0 : t - fb < rem := by simpa using hc
        clear hc
        obtain ⟨e, he1⟩ : ∃ e, e = t - fb := ⟨_, rfl⟩
        have he : bin .sub .u8 ti fbI = (e : Int) := by rw [w1, he1]
        have hel : e ≤ rem := by omega
        have het : e ≤ t - fb := by omega
        have hep : 0 < e := by omega

        conv => cbv
        have he7 : e < 8 := by omega
        obtain ⟨s1', s2', s3', s4', s5', s6', s7', s8'⟩ := hcb.step hf ht hel het
        have v1 : bin .sub .u8 8 (bin .sub .u8 ti fbI) = ((8 - e : Nat) : Int) := by rw [he, sub_u8 hA (by omega)]; omega
        have v2 : bin .shl .u8 nbI (bin .sub .u8 ti fbI) = ((nb * 2 ^ e : Nat) : Int) := by rw [hnb, he, shw_u8 hA (by omega), s3']
        have v3 : bin .shr .u8 bI (bin .sub .u8 8 (bin .sub .u8 ti fbI)) = ((b / 2 ^ (8 - e) : Nat) : Int) := by rw [v1, hb]; exact shn_u8 hA (by omega)
        have v4 : bin .or .u8 (bin .shl .u8 nbI (bin .sub .u8 ti fbI)) (bin .shr .u8 bI (bin .sub .u8 8 (bin .sub .u8 ti fbI))) = ((nb * 2 ^ e + b / 2 ^ (8 - e) : Nat) : Int) := by
          rw [v2, v3, or_u8 hA (by rw [← s3']; exact Nat.le_of_lt_succ (Nat.mod_lt _ (by decide))) (by omega), s4']
        have v5 : bin .shl .u8 bI (bin .sub .u8 ti fbI) = ((b * 2 ^ e % 256 : Nat) : Int) := by rw [hb, he]; exact shw_u8 hA (by omega)
        have v6 : bin .add .u8 fbI (bin .sub .u8 ti fbI) = ((fb + e : Nat) : Int) := by rw [he, hfb, add_u8 hA (by omega)]; simp
        have v7 : bin .sub .u8 remI (bin .sub .u8 ti fbI) = ((rem - e : Nat) : Int) := by first | (rw [he, hrem, sub_u8 hA (by omega)]; omega) | (rw [he, sub_u8 hA (by omega)]; omega)
        refine ⟨by omega, ?_⟩
        refine ⟨by rw [v1]; omega, ?_⟩
        refine ⟨by omega, ?_⟩
        by_cases hfull : fb + e = t
        · refine br_t (by rw [v6, cmp_eql hA]; simp; omega) ?_
          conv => cbv
          refine ⟨_, rfl, ?_⟩
          intro R3 bk hle3 hbk
          conv => cbv
          refine ⟨n2, zs2, _, _, 1, [.int .u8 (bin .or .u8 (bin .shl .u8 nbI (bin .sub .u8 ti fbI)) (bin .shr .u8 bI (bin .sub .u8 8 (bin .sub .u8 ti fbI))))], .row 0 ⟨a2, n2, c2, 5, 1, zs2⟩ rfl rfl rfl, src_one hbk rfl, by omega, by omega, ?_⟩
          intro a3 n3 c3 zs3 hn3 hz3 ha3
          conv => cbv
          refine ⟨rem - e, ⟨R3, i2, a3, n3, c3, zs3, 0, 0, bin .shl .u8 bI (bin .sub .u8 ti fbI), bin .sub .u8 remI (bin .sub .u8 ti fbI)⟩, by omega, ⟨⟨rfl, rfl, rfl, rfl, rfl, rfl, rfl, rfl, rfl, rfl, rfl, trivial⟩, rfl, trivial, rfl, rfl⟩,
            ys ++ [nb * 2 ^ e + b / 2 ^ (8 - e)], 0, 0, b * 2 ^ e % 256, v7, v5, RO.le_trans hR2 hle3, hcb.full hf ht hel hfull ht0, rfl, rfl, ?_, ?_, ha3⟩
          · show zs3 = _
            rw [hz3, v4, hzs, up_app, ← ints_app]
            rfl
          · show n3 = _
            rw [hn3, hn2]
            simp
        · refine br_f (by rw [v6, cmp_eql hA]; simp; omega) ?_
          conv => cbv
          refine ⟨rem - e, ⟨R2, i2, a2, n2, c2, zs2, bin .or .u8 (bin .shl .u8 nbI (bin .sub .u8 ti fbI)) (bin .shr .u8 bI (bin .sub .u8 8 (bin .sub .u8 ti fbI))), bin .add .u8 fbI (bin .sub .u8 ti fbI), bin .shl .u8 bI (bin .sub .u8 ti fbI), bin .sub .u8 remI (bin .sub .u8 ti fbI)⟩, by omega, ⟨⟨rfl, rfl, rfl, rfl, rfl, rfl, rfl, rfl, rfl, rfl, rfl, trivial⟩, rfl, trivial, rfl, rfl⟩,
            ys, fb + e, nb * 2 ^ e + b / 2 ^ (8 - e), b * 2 ^ e % 256, v7, v5, hR2, hcb.go hf ht hel (by omega), v4, v6, hzs, hn2, ha2⟩
      · rw [w1, cmp_lss hA, hrem] at hc
        have he0 : ¬ t - fb < rem := by simpa using hc
        clear hc
        obtain ⟨e, he1⟩ : ∃ e, e = rem := ⟨_, rfl⟩
        have he : remI = (e : Int) := by rw [hrem, he1]
        have hel : e ≤ rem := by omega
        have het : e ≤ t - fb := by omega
        have hep : 0 < e := by omega
        conv => cbv
        have he7 : e < 8 := by omega
        obtain ⟨s1', s2', s3', s4', s5', s6', s7', s8'⟩ := hcb.step hf ht hel het
        have v1 : bin .sub .u8 8 remI = ((8 - e : Nat) : Int) := by rw [he, sub_u8 hA (by omega)]; omega
        have v2 : bin .shl .u8 nbI remI = ((nb * 2 ^ e : Nat) : Int) := by rw [hnb, he, shw_u8 hA (by omega), s3']
        have v3 : bin .shr .u8 bI (bin .sub .u8 8 remI) = ((b / 2 ^ (8 - e) : Nat) : Int) := by rw [v1, hb]; exact shn_u8 hA (by omega)
        have v4 : bin .or .u8 (bin .shl .u8 nbI remI) (bin .shr .u8 bI (bin .sub .u8 8 remI)) = ((nb * 2 ^ e + b / 2 ^ (8 - e) : Nat) : Int) := by
          rw [v2, v3, or_u8 hA (by rw [← s3']; exact Nat.le_of_lt_succ (Nat.mod_lt _ (by decide))) (by omega), s4']
        have v5 : bin .shl .u8 bI remI = ((b * 2 ^ e % 256 : Nat) : Int) := by rw [hb, he]; exact shw_u8 hA (by omega)
        have v6 : bin .add .u8 fbI remI = ((fb + e : Nat) : Int) := by rw [he, hfb, add_u8 hA (by omega)]; simp
        have v7 : bin .sub .u8 remI remI = ((rem - e : Nat) : Int) := by first | (rw [he, hrem, sub_u8 hA (by omega)]; omega) | (rw [he, sub_u8 hA (by omega)]; omega)
        refine ⟨by omega, ?_⟩
        refine ⟨by rw [v1]; omega, ?_⟩
        refine ⟨by omega, ?_⟩
        by_cases hfull : fb + e = t
        · refine br_t (by rw [v6, cmp_eql hA]; simp; omega) ?_
          conv => cbv
          refine ⟨_, rfl, ?_⟩
          intro R3 bk hle3 hbk
          conv => cbv
          refine ⟨n2, zs2, _, _, 1, [.int .u8 (bin .or .u8 (bin .shl .u8 nbI remI) (bin .shr .u8 bI (bin .sub .u8 8 remI)))], .row 0 ⟨a2, n2, c2, 5, 1, zs2⟩ rfl rfl rfl, src_one hbk rfl, by omega, by omega, ?_⟩
          intro a3 n3 c3 zs3 hn3 hz3 ha3
          conv => cbv
          refine ⟨rem - e, ⟨R3, i2, a3, n3, c3, zs3, 0, 0, bin .shl .u8 bI remI, bin .sub .u8 remI remI⟩, by omega, ⟨⟨rfl, rfl, rfl, rfl, rfl, rfl, rfl, rfl, rfl, rfl, rfl, trivial⟩, rfl, trivial, rfl, rfl⟩,
            ys ++ [nb * 2 ^ e + b / 2 ^ (8 - e)], 0, 0, b * 2 ^ e % 256, v7, v5, RO.le_trans hR2 hle3, hcb.full hf ht hel hfull ht0, rfl, rfl, ?_, ?_, ha3⟩
          · show zs3 = _
            rw [hz3, v4, hzs, up_app, ← ints_app]
            rfl
          · show n3 = _
            rw [hn3, hn2]
            simp
        · refine br_f (by rw [v6, cmp_eql hA]; simp; omega) ?_
          conv => cbv
          refine ⟨rem - e, ⟨R2, i2, a2, n2, c2, zs2, bin .or .u8 (bin .shl .u8 nbI remI) (bin .shr .u8 bI (bin .sub .u8 8 remI)), bin .add .u8 fbI remI, bin .shl .u8 bI remI, bin .sub .u8 remI remI⟩, by omega, ⟨⟨rfl, rfl, rfl, rfl, rfl, rfl, rfl, rfl, rfl, rfl, rfl, trivial⟩, rfl, trivial, rfl, rfl⟩,
            ys, fb + e, nb * 2 ^ e + b / 2 ^ (8 - e), b * 2 ^ e % 256, v7, v5, hR2, hcb.go hf ht hel (by omega), v4, v6, hzs, hn2, ha2⟩
    · have h0 : rem = 0 := by omega
      rw [h0] at hcb
      have hce2 := hcb.done
      have htk : xs.take j ++ [yn] = xs.take (j + 1) := by
        rw [List.take_add_one, List.getElem?_eq_getElem hjx, hyn]; rfl
      rw [htk] at hce2
      refine br_f (by rw [cmp_gtr hA]; simp; omega) ?_
      conv => cbv
      refine ⟨n - (j + 1), ⟨R2, bin .add .i64 i 1, a2, n2, c2, zs2, nbI, fbI, 0, 0⟩, by omega, ⟨⟨rfl, rfl, rfl, rfl, rfl, rfl, rfl, rfl, rfl, trivial⟩, rfl, trivial, rfl, rfl⟩,
        j + 1, ys, fb, nb, ?_, by omega, rfl, hR2, hce2, hnb, hfb, hzs, hn2, ha2⟩
      show bin .add .i64 i 1 = ((j + 1 : Nat) : Int)
      rw [add_i64 hA (by omega)]
      omega
  · refine br_f (by rw [o, cmp_lss hA]; simp; omega) ?_
    conv => cbv
    have hjn : xs.take j = xs := List.take_of_length_le (by omega)
    rw [hjn] at hce
    have hft := hce.ft
    have hnn := hce.hn
    have hbd : ys.length ≤ 10 * n := by
      have h1 := hce.hc
      have h2 : 1 * ys.length ≤ t * ys.length := Nat.mul_le_mul_right _ ht0
      have h3 : f * xs.length ≤ 8 * xs.length := Nat.mul_le_mul_right _ hf
      omega
    have hys : ∀ y ∈ ys, y < 256 := fun y hy => Nat.lt_of_lt_of_le (hce.hy y hy) (by have : 2 ^ t ≤ 2 ^ 8 := Nat.pow_le_pow_right (by decide) ht; simpa using this)
    cases pad with
    | true =>
      conv => cbv
      have g00 : cmp .gtr 0 0 = false := by rw [cmp_gtr hA]; rfl
      by_cases hf0 : fb = 0
      · have cf : cmp .gtr fbI 0 = false := by rw [cmp_gtr hA, hfb, hf0]; rfl
        refine br_f cf ?_
        conv => cbv
        simp only [cf]
        conv => cbv
        intro ρ R'' hle _ hpr
        refine ⟨ys, fb, nb, hce, a1, n1, c1, _, rfl, .inl ⟨rfl, by omega, ?_⟩⟩
        rw [if_neg (by simp [hf0])]
        exact (hpr _ (List.mem_cons_self ..)).ri (by rw [up_len]; exact hn1) ha1 rfl hzs (up_wf hys)
      · refine br_t (by rw [cmp_gtr hA]; simp; omega) ?_
        conv => cbv
        have w1 : bin .sub .u8 ti fbI = ((t - fb : Nat) : Int) := by rw [← hti, hfb, sub_u8 hA (by omega)]; omega
        have hlt2 : nb * 2 ^ (t - fb) < 256 := by
          have h1 : (2 : Nat) ^ t = 2 ^ fb * 2 ^ (t - fb) := by rw [← Nat.pow_add, show fb + (t - fb) = t by omega]
          have h2 : nb * 2 ^ (t - fb) < 2 ^ t := by rw [h1]; exact Nat.mul_lt_mul_of_pos_right hnn (Nat.pow_pos (by decide))
          have h3 : (2 : Nat) ^ t ≤ 2 ^ 8 := Nat.pow_le_pow_right (by decide) ht
          have h4 : (2 : Nat) ^ 8 = 256 := rfl
          omega
        have w2 : bin .shl .u8 nbI (bin .sub .u8 ti fbI) = ((nb * 2 ^ (t - fb) : Nat) : Int) := by rw [w1, hnb, shw_u8 hA (by omega), Nat.mod_eq_of_lt hlt2]
        refine ⟨by rw [w1]; omega, ?_⟩
        refine ⟨_, rfl, ?_⟩
        intro R3 bk hle3 hbk
        conv => cbv
        refine ⟨n1, zs, _, _, 1, [.int .u8 (bin .shl .u8 nbI (bin .sub .u8 ti fbI))], .row 0 ⟨a1, n1, c1, 5, 1, zs⟩ rfl rfl rfl, src_one hbk rfl, by omega, by omega, ?_⟩
        intro a3 n3 c3 zs3 hn3 hz3 ha3
        conv => cbv
        simp only [g00]
        conv => cbv
        intro ρ R'' hle _ hpr
        refine ⟨ys, fb, nb, hce, a3, n3, c3, _, rfl, .inl ⟨rfl, by omega, ?_⟩⟩
        rw [if_pos (by simp [hf0])]
        refine (hpr _ (List.mem_cons_self ..)).ri (by rw [up_len]; show n3 = _; rw [hn3, hn1]; simp) ha3 rfl ?_ (up_wf fun y hy => ?_)
        · show zs3 = _
          rw [hz3, w2, hzs, up_app, ← ints_app]
          rfl
        · rcases List.mem_append.1 hy with hy | hy
          · exact hys y hy
          · simp at hy; rw [hy]; exact hlt2
    | false =>
      conv => cbv
      by_cases hf0 : fb = 0
      · have cf : cmp .gtr fbI 0 = false := by rw [cmp_gtr hA, hfb, hf0]; rfl
        simp only [cf]
        conv => cbv
        intro ρ R'' hle _ hpr
        exact ⟨ys, fb, nb, hce, a1, n1, c1, _, rfl, .inl ⟨rfl, by omega, by rw [if_neg (by simp)]; exact (hpr _ (List.mem_cons_self ..)).ri (by rw [up_len]; exact hn1) ha1 rfl hzs (up_wf hys)⟩⟩
      · have cf : cmp .gtr fbI 0 = true := by rw [cmp_gtr hA]; simp; omega
        simp only [cf]
        conv => cbv
        by_cases h4 : fb ≤ 4
        · have c4 : cmp .gtr fbI 4 = false := by rw [cmp_gtr hA]; simp; omega
          simp only [c4]
          conv => cbv
          by_cases hn0 : nb = 0
          · have cn : cmp .neq nbI 0 = false := by rw [cmp_neq hA, hnb, hn0]; rfl
            simp only [cn]
            conv => cbv
            intro ρ R'' hle _ hpr
            exact ⟨ys, fb, nb, hce, a1, n1, c1, _, rfl, .inl ⟨rfl, by omega, by rw [if_neg (by simp)]; exact (hpr _ (List.mem_cons_self ..)).ri (by rw [up_len]; exact hn1) ha1 rfl hzs (up_wf hys)⟩⟩
          · have cn : cmp .neq nbI 0 = true := by rw [cmp_neq hA]; simp; omega
            simp only [cn]
            conv => cbv
            intro ρ R'' hle _ hpr
            exact ⟨ys, fb, nb, hce, none, 0, 0, _, rfl, .inr ⟨⟨_, _, rfl⟩, (by simp), fun hx => hn0 hx.1⟩⟩
        · have c4 : cmp .gtr fbI 4 = true := by rw [cmp_gtr hA]; simp; omega
          simp only [c4]
          conv => cbv
          intro ρ R'' hle _ hpr
          exact ⟨ys, fb, nb, hce, none, 0, 0, _, rfl, .inr ⟨⟨_, _, rfl⟩, (by simp), fun hx => h4 hx.2⟩⟩
end Go.Proofs.Ytclkimgpdnldnaa.Adr
