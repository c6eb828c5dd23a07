/- Bytes are added to a filter. -/
import Derived.Test.YtnlpjppjhikooaaBla
set_option linter.unusedSimpArgs false
set_option linter.unusedVariables false
namespace Go.Proofs.Ytnlpjppjhikooaa.Bl
open Go Go.Se Go.Proofs Go.Proofs.Ytnlpjppjhikooaa.Tybl

/-- A place that is set. -/
def bp (n : Nat) (tw : Int) (ds : List Int) (i : Nat) : Nat := (murmur (Ar.real.bin .add .u32 (Ar.real.bin .mul .u32 (i : Int) 4221880213) tw) ds % ((8 * n : Nat) : Int)).toNat

def bps (n : Nat) (tw : Int) (ds : List Int) (k : Nat) : List Nat := (List.range k).map (bp n tw ds)

theorem bp_lt {n : Nat} (h : 1 ≤ n) (tw : Int) (ds : List Int) (i : Nat) : bp n tw ds i < 8 * n := by
  unfold bp
  have h1 := (murmur_range (Ar.real.bin .add .u32 (Ar.real.bin .mul .u32 (i : Int) 4221880213) tw) ds).1
  generalize murmur (Ar.real.bin .add .u32 (Ar.real.bin .mul .u32 (i : Int) 4221880213) tw) ds = x at h1
  have h2 := Int.emod_nonneg x (b := ((8 * n : Nat) : Int)) (by omega)
  have h3 := Int.emod_lt_of_pos x (b := ((8 * n : Nat) : Int)) (by omega)
  omega

theorem sb_wf {xs : List Int} (h : ∀ x ∈ xs, (Lit.int .u8 x).wf = true) (p : Nat) : ∀ x ∈ sb xs p, (Lit.int .u8 x).wf = true := by
  intro x hx
  rcases List.mem_or_eq_of_mem_set hx with hx | rfl
  · exact h x hx
  · have h1 : (xs.getD (p / 8) 0).toNat < 2 ^ 8 := by
      rw [List.getD_eq_getElem?_getD]
      cases hg : xs[p / 8]? with
      | none => simp
      | some y =>
        have := wf_u8 (h y (List.mem_of_getElem? hg))
        simp only [Option.getD_some]
        omega
    have h2 : 2 ^ (p % 8) < 2 ^ 8 := Nat.pow_lt_pow_right (by decide) (Nat.mod_lt _ (by decide))
    have h3 := Nat.or_lt_two_pow h1 h2
    generalize (xs.getD (p / 8) 0).toNat ||| 2 ^ (p % 8) = z at h3 ⊢
    simp [Lit.wf, IntKind.min, IntKind.max, IntKind.bits, IntKind.signed]
    omega

theorem sbs_wf (ps : List Nat) : ∀ {xs : List Int}, (∀ x ∈ xs, (Lit.int .u8 x).wf = true) → ∀ x ∈ sbs xs ps, (Lit.int .u8 x).wf = true := by
  induction ps with
  | nil => intro xs h; exact h
  | cons p ps ih => intro xs h; exact ih (sb_wf h p)

theorem bps_succ (xs : List Int) (n : Nat) (tw : Int) (ds : List Int) (j : Nat) : sbs xs (bps n tw ds (j + 1)) = sb (sbs xs (bps n tw ds j)) (bp n tw ds j) := by
  rw [bps, List.range_succ, List.map_append, sbs_app]
  rfl

theorem ints_set {k : IntKind} {ys : List Int} {j : Nat} {v : Int} (h : j < ys.length) : (ints k ys).take j ++ [Value.int k v] ++ (ints k ys).drop (j + 1) = ints k (ys.set j v) := by
  simp only [ints, List.set_eq_take_append_cons_drop, h, if_true, List.map_append, List.map_cons, List.map_take, List.map_drop]
  simp





structure La where
  i : Int
  zs : List Value

set_option maxRecDepth 100000 in
set_option maxHeartbeats 4000000 in
theorem bloomAdd {P : Program} (hP : P = Try.prog) (R : RO) (a : Option Addr) (n c : Nat) (xs : List Int) (h : RI R .u8 a n xs) (hn1 : 1 ≤ n) (hn2 : n ≤ 2000) (F : Int) (k : Nat) (hF : F = k) (hk : k ≤ 50) (tw : Int) (hw0 : 0 ≤ tw) (hw1 : tw ≤ 4294967295)
    (b : Option Addr) (m d : Nat) (ds : List Int) (g : RI R .u8 b m ds) (hm : m ≤ 100000) (hd : m ≤ d) :
    RetP P 9 [.agg #[.slice a n c, .int .u32 F, .int .u32 tw], .slice b m d] R fun R' v => ∃ a2 c2, v = .agg #[.slice a2 n c2, .int .u32 F, .int .u32 tw] ∧ RI R' .u8 a2 n (sbs xs (bps n tw ds k)) := by
  subst hP
  have hl := h.len
  refine retP_vc (fz := []) Try.func9 rfl (by decide) rfl ok9 ?_
  intro P bin cmp cnv neg com bnot beq ofN toN at_ sub_ scmp cat sget ssz ssub elem fld_ hP hA
  conv => cbv
  refine callP_in (fz := []) hP hA Try.func18 rfl (by decide) rfl ok18 (by simp [labL, lab]) ?_
  conv => cbv
  refine ⟨[0, 1, 3, 4, 5, 6, 7, 2, 8, 9, 10, 11], [9, 10], mix hP, by kernel_rfl, ?_⟩
  conv => cbv
  refine callP_in (fz := []) hP hA Try.func26 rfl (by decide) rfl ok26 (by simp [labL, lab]) ?_
  conv => cbv
  refine ⟨0, [], _, _, _, n, _, .own 3 0 _ [] rfl rfl rfl rfl (by decide), .refl _, h.src, by omega, by omega, ?_⟩
  intro a1 n1 c1 z1 hn1' hz1 hs1
  conv => cbv
  refine ⟨⟨⟨rfl, rfl, rfl, trivial⟩, List.nil_sublist _⟩, ?_⟩
  conv => cbv
  refine callP_in (fz := []) hP hA Try.func33 rfl (by decide) rfl ok33 (by simp [labL, lab]) ?_
  conv => cbv
  refine callP_in (fz := []) hP hA Try.func49 rfl (by decide) rfl ok49 (by simp [labL, lab]) ?_
  conv => cbv
  have o1 := ofN_ hA n1
  have nt : bnot true = false := by rw [bnot_ hA]; rfl
  have nf : bnot false = true := by rw [bnot_ hA]; rfl
  simp (maxSteps := 10000000) only [nf]
  conv => cbv
  have q0 : cmp .eql (ofN n1) 0 = false := by rw [o1, cmp_eql hA]; simp; omega
  simp (maxSteps := 10000000) only [q0]
  conv => cbv
  refine callP_in (fz := []) hP hA Try.func19 rfl (by decide) rfl ok19 (by simp [labL, lab]) ?_
  conv => cbv
  refine callP_in (fz := []) hP hA Try.func34 rfl (by decide) rfl ok34 (by simp [labL, lab]) ?_
  conv => cbv
  refine callP_in (fz := [1000 + 67, 1000 + 68, 1000 + 69, 1000 + 70]) hP hA Try.func50 rfl (by decide) rfl ok50 (by simp [labL, lab]) ?_
  conv => cbv
  refine gen_mark0 rfl rfl (by rw [hP]; exact Try.func67) (by kernel_rfl) (by kernel_rfl) (by kernel_rfl) rfl .disable (by kernel_rfl) ?_
  conv => cbv
  refine gen_cas rfl rfl (by rw [hP]; exact Try.func68) (by kernel_rfl) (by kernel_rfl) (by kernel_rfl) rfl (by kernel_rfl) rfl rfl ?_
  conv => cbv
  refine gen_mark0 rfl rfl (by rw [hP]; exact Try.func69) (by kernel_rfl) (by kernel_rfl) (by kernel_rfl) rfl .enable (by kernel_rfl) ?_
  conv => cbv
  refine raw_to_unsafe rfl rfl rfl (Nat.zero_lt_succ _) (by rw [hP]; exact Try.underlying141) (by rw [hP]; exact Try.underlying145) (by rw [hP]; kernel_rfl) (Nat.le_of_ble_eq_true rfl) ?_
  conv => cbv
  refine gen_marked rfl rfl (by rw [hP]; exact Try.func70) (by kernel_rfl) (by kernel_rfl) (by kernel_rfl) rfl .acquire (by kernel_rfl) ?_
  conv => cbv
  refine callP_in (fz := []) hP hA Try.func35 rfl (by decide) rfl ok35 (by simp [labL, lab]) ?_
  conv => cbv
  obtain ⟨ad1, rfl⟩ := Option.isSome_iff_exists.1 (hs1 (by omega))
  have hnn : n1 = n := by omega
  have hz0 : z1 = ints .u8 (sbs xs (bps n tw ds 0)) := by rw [hz1]; rfl
  refine ⟨La, fun x => ⟨[(4, .v (.int .u32 x.i)), (0, .p 5 0), (1, .v (.slice b m d))], R, [(5, ⟨86, [.v (.int .i32 1), .v (.int .u32 0), .p 4 0]⟩), (4, ⟨78, [.v (.slice (some ad1) n1 c1), .v (.int .u32 F), .v (.int .u32 tw), .v (.int .u8 0)]⟩), (1, ⟨25, [.v (.slice none 0 0), .v (.int .u32 0), .v (.int .u32 0)]⟩)], 6, [⟨some ad1, n1, c1, 5, 1, x.zs⟩]⟩,
    fun q x => ∃ j : Nat, x.i = j ∧ j ≤ k ∧ q = k - j ∧ x.zs = ints .u8 (sbs xs (bps n tw ds j)),
    ⟨k, ⟨0, z1⟩, ⟨⟨rfl, rfl, rfl, trivial⟩, rfl, ⟨rfl, rfl, rfl, trivial⟩, rfl, .refl _⟩, 0, rfl, by omega, rfl, hz0⟩, ?_⟩
  rintro q ⟨i, zs⟩ ⟨j, hi, hj, hq, hzs⟩
  simp only at hi hzs
  conv => cbv
  by_cases hlt : j < k
  case neg =>
    refine br_f (by rw [cmp_lss hA]; simp; omega) ?_
    conv => cbv
    refine callP_in (fz := []) hP hA Try.func36 rfl (by decide) rfl ok36 (by simp [labL, lab]) ?_
    conv => cbv
    refine callP_in (fz := [1000 + 67, 1000 + 74, 1000 + 69, 1000 + 73]) hP hA Try.func52 rfl (by decide) rfl ok52 (by simp [labL, lab]) ?_
    conv => cbv
    refine raw_to_unsafe rfl rfl rfl (Nat.zero_lt_succ _) (by rw [hP]; exact Try.underlying141) (by rw [hP]; exact Try.underlying145) (by rw [hP]; kernel_rfl) (Nat.le_of_ble_eq_true rfl) ?_
    conv => cbv
    refine gen_marked rfl rfl (by rw [hP]; exact Try.func73) (by kernel_rfl) (by kernel_rfl) (by kernel_rfl) rfl .releaseMerge (by kernel_rfl) ?_
    conv => cbv
    refine gen_mark0 rfl rfl (by rw [hP]; exact Try.func67) (by kernel_rfl) (by kernel_rfl) (by kernel_rfl) rfl .disable (by kernel_rfl) ?_
    conv => cbv
    refine gen_add (z := 0) rfl rfl (by rw [hP]; exact Try.func74) (by kernel_rfl) (by kernel_rfl) (by kernel_rfl) rfl (by kernel_rfl) rfl rfl (fun w => by simp [go_sem]; rfl) ?_
    conv => cbv
    refine br_f (by rw [cmp_neq hA]; rfl) ?_
    conv => cbv
    refine gen_mark0 rfl rfl (by rw [hP]; exact Try.func69) (by kernel_rfl) (by kernel_rfl) (by kernel_rfl) rfl .enable (by kernel_rfl) ?_
    conv => cbv
    refine callP_in (fz := []) hP hA Try.func20 rfl (by decide) rfl ok20 (by simp [labL, lab]) ?_
    conv => cbv
    refine callP_in (fz := []) hP hA Try.func37 rfl (by decide) rfl ok37 (by simp [labL, lab]) ?_
    conv => cbv
    refine callP_in (fz := []) hP hA Try.func34 rfl (by decide) rfl ok34 (by simp [labL, lab]) ?_
    conv => cbv
    refine callP_in (fz := [1000 + 67, 1000 + 68, 1000 + 69, 1000 + 70]) hP hA Try.func50 rfl (by decide) rfl ok50 (by simp [labL, lab]) ?_
    conv => cbv
    refine gen_mark0 rfl rfl (by rw [hP]; exact Try.func67) (by kernel_rfl) (by kernel_rfl) (by kernel_rfl) rfl .disable (by kernel_rfl) ?_
    conv => cbv
    refine gen_cas rfl rfl (by rw [hP]; exact Try.func68) (by kernel_rfl) (by kernel_rfl) (by kernel_rfl) rfl (by kernel_rfl) rfl rfl ?_
    conv => cbv
    refine gen_mark0 rfl rfl (by rw [hP]; exact Try.func69) (by kernel_rfl) (by kernel_rfl) (by kernel_rfl) rfl .enable (by kernel_rfl) ?_
    conv => cbv
    refine raw_to_unsafe rfl rfl rfl (Nat.zero_lt_succ _) (by rw [hP]; exact Try.underlying141) (by rw [hP]; exact Try.underlying145) (by rw [hP]; kernel_rfl) (Nat.le_of_ble_eq_true rfl) ?_
    conv => cbv
    refine gen_marked rfl rfl (by rw [hP]; exact Try.func70) (by kernel_rfl) (by kernel_rfl) (by kernel_rfl) rfl .acquire (by kernel_rfl) ?_
    conv => cbv
    refine callP_in (fz := []) hP hA Try.func36 rfl (by decide) rfl ok36 (by simp [labL, lab]) ?_
    conv => cbv
    refine callP_in (fz := [1000 + 67, 1000 + 74, 1000 + 69, 1000 + 73]) hP hA Try.func52 rfl (by decide) rfl ok52 (by simp [labL, lab]) ?_
    conv => cbv
    refine raw_to_unsafe rfl rfl rfl (Nat.zero_lt_succ _) (by rw [hP]; exact Try.underlying141) (by rw [hP]; exact Try.underlying145) (by rw [hP]; kernel_rfl) (Nat.le_of_ble_eq_true rfl) ?_
    conv => cbv
    refine gen_marked rfl rfl (by rw [hP]; exact Try.func73) (by kernel_rfl) (by kernel_rfl) (by kernel_rfl) rfl .releaseMerge (by kernel_rfl) ?_
    conv => cbv
    refine gen_mark0 rfl rfl (by rw [hP]; exact Try.func67) (by kernel_rfl) (by kernel_rfl) (by kernel_rfl) rfl .disable (by kernel_rfl) ?_
    conv => cbv
    refine gen_add (z := 0) rfl rfl (by rw [hP]; exact Try.func74) (by kernel_rfl) (by kernel_rfl) (by kernel_rfl) rfl (by kernel_rfl) rfl rfl (fun w => by simp [go_sem]; rfl) ?_
    conv => cbv
    refine br_f (by rw [cmp_neq hA]; rfl) ?_
    conv => cbv
    refine gen_mark0 rfl rfl (by rw [hP]; exact Try.func69) (by kernel_rfl) (by kernel_rfl) (by kernel_rfl) rfl .enable (by kernel_rfl) ?_
    conv => cbv
    refine ⟨[0, 1, 2, 3, 5, 6, 7, 8, 9, 10, 11, 12, 4, 13, 14], [14], mix hP, by kernel_rfl, ?_⟩
    conv => cbv
    refine callP_in (fz := []) hP hA Try.func26 rfl (by decide) rfl ok26 (by simp [labL, lab]) ?_
    conv => cbv
    have hzl : zs.length = n1 := by rw [hzs, ints_len, sbs_len]; omega
    refine ⟨0, [], _, _, _, n1, zs, .own 7 0 _ [] rfl rfl rfl rfl (by decide), .refl _, src_row (r := ⟨some ad1, n1, c1, 5, 1, zs⟩) (List.mem_cons_self ..) (fun _ => rfl) (by show zs.length = n1 * 1; omega) (by show ∀ v ∈ zs, v.oneCell' = true; rw [hzs]; exact ints_one _ _), by omega, by omega, ?_⟩
    intro a9 n9 c9 z9 hn9 hz9 hs9
    conv => cbv
    refine ⟨⟨⟨rfl, rfl, rfl, rfl, trivial⟩, .cons _ (.refl _)⟩, ?_⟩
    conv => cbv
    intro ρ R'' _ hpub hpr
    obtain rfl : n9 = n := by omega
    have hjk : j = k := by omega
    rw [hjk] at hzs
    refine ⟨a9, c9, rfl, ?_⟩
    exact (hpr _ (List.mem_cons_self ..)).ri (k := .u8) (xs := sbs xs (bps n9 tw ds k)) (by rw [sbs_len]; exact hl) hs9 rfl (by show z9 = _; rw [hz9, hzs]; rfl) (sbs_wf _ h.wf)
  refine br_t (by rw [cmp_lss hA]; simp; omega) ?_
  conv => cbv
  refine callP_in (fz := []) hP hA Try.func51 rfl (by decide) rfl ok51 (by simp [labL, lab]) ?_
  conv => cbv
  refine (murmurP hP R _ b m d ds g hm hd).callQ rfl ?_
  rintro _ ⟨r, rfl, hr⟩
  conv => cbv
  refine ⟨by decide, ?_⟩
  have esh : bin .shl .u32 (cnv .u32 (ofN n1)) 3 = ((8 * n : Nat) : Int) := by
    rw [o1, cnv_u32 hA (by omega), shl_u32 hA (by decide) (by simp; omega)]
    simp
    omega
  have hr0 : 0 ≤ r ∧ r ≤ 4294967295 := by rw [hr]; exact murmur_range _ _
  have hbp : bp n tw ds j = (r % ((8 * n : Nat) : Int)).toNat := by rw [bp, hr, bin_is hA, hi]
  clear hr
  have eI : bin .rem .u32 r (bin .shl .u32 (cnv .u32 (ofN n1)) 3) = ((bp n tw ds j : Nat) : Int) := by
    rw [esh, rem_u32 hA hr0.1, hbp]
    have := Int.emod_nonneg r (b := ((8 * n : Nat) : Int)) (by omega)
    omega
  refine ⟨by rw [esh]; omega, ?_⟩
  generalize bin .rem .u32 r (bin .shl .u32 (cnv .u32 (ofN n1)) 3) = I at eI
  have hlt8 := bp_lt hn1 tw ds j
  obtain ⟨p, hp⟩ : ∃ p, p = bp n tw ds j := ⟨_, rfl⟩
  rw [← hp] at eI hlt8
  obtain ⟨ys, hys⟩ : ∃ ys, ys = sbs xs (bps n tw ds j) := ⟨_, rfl⟩
  have hyl : ys.length = n := by rw [hys, sbs_len]; omega
  rw [← hys] at hzs
  obtain ⟨cv, hcv⟩ : ∃ cv, cv = ys.getD (p / 8) 0 := ⟨_, rfl⟩
  have hyw : 0 ≤ cv ∧ cv ≤ 255 := by
    rw [hcv, List.getD_eq_getElem?_getD, List.getElem?_eq_getElem (by omega)]
    exact wf_u8 (sbs_wf (bps n tw ds j) h.wf _ (by rw [← hys]; exact List.getElem_mem _))
  have es : bin .shr .u32 I 3 = ((p / 8 : Nat) : Int) := by
    rw [eI, shr_u32 hA (by decide)]
    show (p : Int) / 2 ^ 3 = _
    omega
  refine ⟨by decide, ?_⟩
  refine ⟨by rw [es]; omega, by rw [es, o1]; omega, rfl, ?_⟩
  refine ld_row hA 0 (r := ⟨some ad1, n1, c1, 5, 1, zs⟩) rfl rfl rfl (v := .int .u8 cv) (by show zs[(bin .shr .u32 I 3).toNat]? = _; rw [es, hzs, Int.toNat_natCast, hcv]; exact ints_get (by omega)) ?_
  conv => cbv
  have ea : bin .and .u32 7 I = ((p % 8 : Nat) : Int) := by
    have : bin .and .u32 ((7 : Nat) : Int) ((p : Nat) : Int) = ((7 &&& p : Nat) : Int) := and_u32 hA (by omega) (by omega)
    rw [eI]
    refine this.trans ?_
    rw [Nat.and_comm, show p &&& 7 = p % 8 from Nat.and_two_pow_sub_one_eq_mod p 3]
  refine ⟨by rw [ea]; omega, ?_⟩
  refine ⟨by rw [es]; omega, by rw [es, o1]; omega, rfl, ?_⟩
  have hp8 : 2 ^ (p % 8) < 2 ^ 8 := Nat.pow_lt_pow_right (by decide) (Nat.mod_lt _ (by decide))
  have evv : bin .or .u8 cv (bin .shl .u8 1 (bin .and .u32 7 I)) = ((cv.toNat ||| 2 ^ (p % 8) : Nat) : Int) := by
    have e1 : bin .shl .u8 ((1 : Nat) : Int) ((p % 8 : Nat) : Int) = ((1 * 2 ^ (p % 8) % 256 : Nat) : Int) := shw_u8 hA (by omega)
    have e2 : bin .or .u8 ((cv.toNat : Nat) : Int) ((2 ^ (p % 8) : Nat) : Int) = ((cv.toNat ||| 2 ^ (p % 8) : Nat) : Int) := or_u8 hA (by omega) (by omega)
    rw [Nat.one_mul, Nat.mod_eq_of_lt hp8] at e1
    rw [ea]
    rw [show ((1 : Nat) : Int) = 1 from rfl] at e1
    rw [e1, ← e2]
    congr 1
    omega
  generalize bin .or .u8 cv (bin .shl .u8 1 (bin .and .u32 7 I)) = V at evv
  refine ⟨0, _, ad1, p / 8, rfl, rfl, ?_, ?_, ?_⟩
  · rw [elem_is hA, es]
    show ad1.add (((p / 8 : Nat) : Int).toNat * 1) = _
    rw [Int.toNat_natCast, Nat.mul_one]
  · show p / 8 + 1 ≤ zs.length
    rw [hzs, ints_len]
    omega
  intro zs2 hz2
  conv => cbv
  refine ⟨k - (j + 1), ⟨i + 1, zs2⟩, by omega, ⟨⟨?_, rfl, rfl, trivial⟩, rfl, ⟨rfl, rfl, rfl, trivial⟩, rfl, .refl _⟩, j + 1, by show i + 1 = ((j + 1 : Nat) : Int); omega, by omega, rfl, ?_⟩
  · rw [add_u32 hA (by omega)]
    rfl
  · show zs2 = _
    rw [hz2, bps_succ, ← hys, ← hp]
    show zs.take (p / 8) ++ [Value.int .u8 V] ++ zs.drop (p / 8 + 1) = _
    rw [hzs, ints_set (by omega), evv, hcv]
    rfl
end Go.Proofs.Ytnlpjppjhikooaa.Bl
