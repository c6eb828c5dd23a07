/- Bytes with their number ahead: the package. -/
import Derived.Test.YtnlpjppjhikooaaDoorVdb
import Derived.Test.YtnlpjppjhikooaaDoorTyve
set_option linter.unusedSimpArgs false
set_option linter.unusedVariables false
namespace Go.Proofs.YtnlpjppjhikooaaDoor.Vd
open Go Go.Se Go.Proofs Go.Proofs.YtnlpjppjhikooaaDoor.Tyve
open Go.Proofs.YtnlpjppjhikooaaDoor.Vr (mix methRead src0 add0 harmReturn ints_zero)
open Go.Proofs.YtnlpjppjhikooaaDoor.Vs (lv lv_lt pv ext pb wr pv_len pv_nn ri_pub)

def IOut (xs : List Int) (R' : RO) (r : Value) : Prop :=
  (pb xs = none ∧ ∃ v1 v2, r = .tuple #[v1, v2, .int .i64 1]) ∨
  (∃ (ys : List Int) (u : Nat) (ui : Int) (a : Option Addr) (n c : Nat), pb xs = some (ys, u) ∧ ui = u ∧ r = .tuple #[.slice a n c, .int .i64 ui, .int .i64 0] ∧ RI R' .u8 a n ys)








set_option maxRecDepth 100000 in
set_option maxHeartbeats 4000000 in
theorem readI {P : Program} (hP : P = Tryd.prog) (R : RO) (ae au : Addr) (hE : Ers R ae au) (ai : Option Addr) (N c : Nat) (xs : List Int) (hb : RI R .u8 ai N xs) (hN : N ≤ 100000) (hc : N ≤ c) :
    RetP P 25 [.slice ai N c] R fun R' r => IOut xs R' r := by
  subst hP
  have hl := hb.len
  have hxb : ∀ x ∈ xs, 0 ≤ x ∧ x ≤ 255 := fun x hx => by
    have := hb.wf x hx
    simp [Lit.wf, IntKind.min, IntKind.max, IntKind.bits, IntKind.signed] at this
    omega
  refine retP_vc (fz := []) Tryd.func25 rfl (by decide) rfl ok25 ?_
  intro P bin cmp cnv neg com bnot beq ofN toN at_ sub_ scmp cat sget ssz ssub elem fld_ hP hA
  conv => cbv
  have nt : bnot true = false := by rw [bnot_ hA]; rfl
  have nf : bnot false = true := by rw [bnot_ hA]; rfl
  refine callP_in (fz := []) hP hA Tryd.func41 rfl (by decide) rfl ok41 (by simp [labL, lab]) ?_
  conv => cbv
  refine callP_in (fz := []) hP hA Tryd.func68 rfl (by decide) rfl ok68 (by simp [labL, lab]) ?_
  conv => cbv
  refine callP_in (fz := []) hP hA Tryd.func53 rfl (by decide) rfl ok53 (by simp [labL, lab]) ?_
  conv => cbv
  refine callP_in (fz := []) hP hA Tryd.func65 rfl (by decide) rfl ok65 (by simp [labL, lab]) ?_
  conv => cbv
  refine ⟨by decide, by decide, by decide, by decide, ?_⟩
  intro ab nb cb zb hnb hcb hzb
  obtain rfl : nb = 8 := by omega
  obtain rfl : cb = 8 := by omega
  rw [ints_zero] at hzb
  conv => cbv
  refine defer_static rfl rfl rfl ⟨_, by rw [hP]; exact Tryd.func66, by decide, rfl⟩ (fun ρ w => harmReturn hP _ _ _ w) ?_
  conv => cbv
  refine callP_in (fz := []) hP hA Tryd.func80 rfl (by decide) rfl ok80 (by simp [labL, lab]) ?_
  conv => cbv
  refine readNum hP R ae au hE ai ab N c xs zb hb (by omega) hc (by rw [hzb]; rfl) ?_ ?_ ?_ ?_
  case refine_3 =>
    intro hno zs pr q t ad
    conv => cbv
    simp (maxSteps := 10000000) only [nf]
    conv => cbv
    have hnone : pb xs = none := by rw [pb, hno]
    refine callP_in (fz := []) hP hA Tryd.func32 rfl (by decide) rfl ok32 (by simp [labL, lab]) ?_
    conv => cbv
    refine ⟨0, [], _, _, _, 0, _, .own 2 0 _ [] rfl rfl rfl rfl (by decide), .refl _, (RI.nil (R := R) (k := .u8)).src, by decide, by decide, ?_⟩
    intro a9 n9 c9 z9 hn9 hz9 hs9
    conv => cbv
    refine callP_in (fz := []) hP hA Tryd.func43 rfl (by decide) rfl ok43 (by simp [labL, lab]) ?_
    conv => cbv
    refine ⟨[0, 1, 2, 3, 4, 5, 6, 7, 8, 9], [], mix hP, by kernel_rfl, ?_⟩
    conv => cbv
    refine br_of (fun _ => ?_) (fun _ => ?_)
    · conv => cbv
      refine callP_in (fz := []) hP hA Tryd.func44 rfl (by decide) rfl ok44 (by simp [labL, lab]) ?_
      conv => cbv
      intro ρ R'' _ _ _
      exact .inl ⟨hnone, _, _, rfl⟩
    conv => cbv
    refine ⟨[0, 1, 2, 3, 4, 5, 6, 7, 8, 9, 10], [], mix hP, by kernel_rfl, ?_⟩
    conv => cbv
    refine callP_in (fz := []) hP hA Tryd.func44 rfl (by decide) rfl ok44 (by simp [labL, lab]) ?_
    conv => cbv
    intro ρ R'' _ _ _
    exact .inl ⟨hnone, _, _, rfl⟩
  case refine_4 =>
    intro hno zs pr q s1 s2
    conv => cbv
    simp (maxSteps := 10000000) only [nf]
    conv => cbv
    have hnone : pb xs = none := by rw [pb, hno]
    refine callP_in (fz := []) hP hA Tryd.func32 rfl (by decide) rfl ok32 (by simp [labL, lab]) ?_
    conv => cbv
    refine ⟨0, [], _, _, _, 0, _, .own 4 0 _ [] rfl rfl rfl rfl (by decide), .refl _, (RI.nil (R := R) (k := .u8)).src, by decide, by decide, ?_⟩
    intro a9 n9 c9 z9 hn9 hz9 hs9
    conv => cbv
    refine callP_in (fz := []) hP hA Tryd.func43 rfl (by decide) rfl ok43 (by simp [labL, lab]) ?_
    conv => cbv
    refine ⟨[0, 1, 2, 3, 4, 5, 6, 7, 8, 9], [], mix hP, by kernel_rfl, ?_⟩
    conv => cbv
    refine br_of (fun _ => ?_) (fun _ => ?_)
    · conv => cbv
      refine callP_in (fz := []) hP hA Tryd.func44 rfl (by decide) rfl ok44 (by simp [labL, lab]) ?_
      conv => cbv
      intro ρ R'' _ _ _
      exact .inl ⟨hnone, _, _, rfl⟩
    conv => cbv
    refine ⟨[0, 1, 2, 3, 4, 5, 6, 7, 8, 9, 10], [], mix hP, by kernel_rfl, ?_⟩
    conv => cbv
    refine callP_in (fz := []) hP hA Tryd.func44 rfl (by decide) rfl ok44 (by simp [labL, lab]) ?_
    conv => cbv
    intro ρ R'' _ _ _
    exact .inl ⟨hnone, _, _, rfl⟩
  case refine_1 =>
    intro v u hpv zs pr q hq
    conv => cbv
    simp (maxSteps := 10000000) only [nt]
    conv => cbv
    obtain ⟨hu1, hu2⟩ := pv_len hpv
    obtain ⟨hv0, hv1⟩ := pv_nn hxb hpv
    have oN0 : ofN N = (N : Int) := ofN_ hA N
    have eM : cnv .u64 (cnv .u32 (bin .add .i64 (ofN N) 1)) = (N : Int) + 1 := by rw [oN0, add_i64 hA (by omega), cnv_u32 hA (by omega), cnv_u64 hA (by omega)]
    by_cases hbig : (N : Int) + 1 < v
    · have hnone : pb xs = none := by
        rw [pb, hpv]
        simp only
        rw [if_neg (by omega)]
      refine br_t (by rw [eM, cmp_gtr hA]; simp; omega) ?_
      conv => cbv
      refine callP_in (fz := []) hP hA Tryd.func104 rfl (by decide) rfl ok104 (by simp [labL, lab]) ?_
      conv => cbv
      simp (maxSteps := 10000000) only [nf]
      conv => cbv
      refine callP_in (fz := []) hP hA Tryd.func32 rfl (by decide) rfl ok32 (by simp [labL, lab]) ?_
      conv => cbv
      refine ⟨0, [], _, _, _, 0, _, .own 3 0 _ [] rfl rfl rfl rfl (by decide), .refl _, (RI.nil (R := R) (k := .u8)).src, by decide, by decide, ?_⟩
      intro a9 n9 c9 z9 hn9 hz9 hs9
      conv => cbv
      refine callP_in (fz := []) hP hA Tryd.func43 rfl (by decide) rfl ok43 (by simp [labL, lab]) ?_
      conv => cbv
      refine ⟨[0, 1, 2, 3, 4, 5, 6, 7, 8, 9], [], mix hP, by kernel_rfl, ?_⟩
      conv => cbv
      refine br_of (fun _ => ?_) (fun _ => ?_)
      · conv => cbv
        refine callP_in (fz := []) hP hA Tryd.func44 rfl (by decide) rfl ok44 (by simp [labL, lab]) ?_
        conv => cbv
        intro ρ R'' _ _ _
        exact .inl ⟨hnone, _, _, rfl⟩
      conv => cbv
      refine ⟨[0, 1, 2, 3, 4, 5, 6, 7, 8, 9, 10], [], mix hP, by kernel_rfl, ?_⟩
      conv => cbv
      refine callP_in (fz := []) hP hA Tryd.func44 rfl (by decide) rfl ok44 (by simp [labL, lab]) ?_
      conv => cbv
      intro ρ R'' _ _ _
      exact .inl ⟨hnone, _, _, rfl⟩
    refine br_f (by rw [eM, cmp_gtr hA]; simp; omega) ?_
    conv => cbv
    obtain ⟨k, hk⟩ : ∃ k : Nat, v = k := ⟨v.toNat, by omega⟩
    refine ⟨by omega, by omega, by omega, by omega, ?_⟩
    intro am nm cm zm hnm hcm hzm
    obtain rfl : k = nm := by omega
    obtain rfl : k = cm := by omega
    rw [ints_zero] at hzm
    conv => cbv
    refine readB hP R ae au hE ai am N c k k u q hq pr xs zm hb (by omega) hc (by omega) (by omega) (Nat.le_refl _) k k (Nat.le_refl _) (by rw [hzm, ints_len]; simp) ⟨some ab, 8, 8, 5, 1, zs⟩ ?_ ?_
    case refine_2 =>
      intro hlt3 z3 pr3 q3 m3 t3 ad3 hzl3
      have hnone : pb xs = none := by
        rw [pb, hpv]
        simp only
        rw [if_neg (by omega)]
      conv => cbv
      simp (maxSteps := 10000000) only [nf]
      conv => cbv
      refine callP_in (fz := []) hP hA Tryd.func32 rfl (by decide) rfl ok32 (by simp [labL, lab]) ?_
      conv => cbv
      refine ⟨0, [], _, _, _, 0, _, .own 2 0 _ [] rfl rfl rfl rfl (by decide), .refl _, (RI.nil (R := R) (k := .u8)).src, by decide, by decide, ?_⟩
      intro a9 n9 c9 z9 hn9 hz9 hs9
      conv => cbv
      refine callP_in (fz := []) hP hA Tryd.func43 rfl (by decide) rfl ok43 (by simp [labL, lab]) ?_
      conv => cbv
      refine ⟨[0, 1, 2, 3, 4, 5, 6, 7, 8, 9], [], mix hP, by kernel_rfl, ?_⟩
      conv => cbv
      refine br_of (fun _ => ?_) (fun _ => ?_)
      · conv => cbv
        refine callP_in (fz := []) hP hA Tryd.func44 rfl (by decide) rfl ok44 (by simp [labL, lab]) ?_
        conv => cbv
        intro ρ R'' _ _ _
        exact .inl ⟨hnone, _, _, rfl⟩
      conv => cbv
      refine ⟨[0, 1, 2, 3, 4, 5, 6, 7, 8, 9, 10], [], mix hP, by kernel_rfl, ?_⟩
      conv => cbv
      refine callP_in (fz := []) hP hA Tryd.func44 rfl (by decide) rfl ok44 (by simp [labL, lab]) ?_
      conv => cbv
      intro ρ R'' _ _ _
      exact .inl ⟨hnone, _, _, rfl⟩
    intro hle3 z3 pr3 q3 m3 hq3 hm3 hz3
    have hzd0 : zm.drop k = [] := List.drop_of_length_le (by rw [hzm, ints_len]; simp)
    have hzd : z3 = ints .u8 ((xs.drop u).take k) := by rw [hz3, hzd0, List.append_nil]
    conv => cbv
    simp (maxSteps := 10000000) only [nt]
    conv => cbv
    refine callP_in (fz := []) hP hA Tryd.func32 rfl (by decide) rfl ok32 (by simp [labL, lab]) ?_
    conv => cbv
    have hL3 : z3.length = k := by rw [hzd, ints_len]; simp; omega
    have ho3 : ∀ v ∈ z3, v.oneCell' = true := by rw [hzd]; exact ints_one _ _
    refine ⟨0, [], _, _, _, k, z3.take k, .own 2 0 _ [] rfl rfl rfl rfl (by decide), .refl _, src0 (r := ⟨some am, k, k, 5, 1, z3⟩) (by simp) rfl (by show k ≤ z3.length; omega) ho3, by omega, by omega, ?_⟩
    intro a9 n9 c9 z9 hn9 hz9 hs9
    conv => cbv
    refine callP_in (fz := []) hP hA Tryd.func43 rfl (by decide) rfl ok43 (by simp [labL, lab]) ?_
    conv => cbv
    refine ⟨[0, 1, 2, 3, 4, 5, 6, 7, 8, 9], [], mix hP, by kernel_rfl, ?_⟩
    conv => cbv
    have oN : ofN N = (N : Int) := ofN_ hA N
    by_cases hend : N ≤ u + k
    · refine br_t (by rw [oN, cmp_geq hA, hq3]; simp; omega) ?_
      conv => cbv
      refine callP_in (fz := []) hP hA Tryd.func44 rfl (by decide) rfl ok44 (by simp [labL, lab]) ?_
      conv => cbv
      intro ρ R'' _ _ hpr
      have hL : ((xs.drop u).take k).length = k := by simp; omega
      have r3 : RI R'' .u8 a9 n9 ((xs.drop u).take k) := ri_pub (hpr _ (List.mem_cons_self ..)) hs9 (by show n9 = _; rw [hL]; omega) rfl (by show z9 = _; rw [hz9, hzd, List.take_of_length_le (by rw [ints_len]; omega)]; rfl) (fun x hx => hb.wf x (List.mem_of_mem_drop (List.mem_of_mem_take hx)))
      refine .inr ⟨(xs.drop u).take k, u + k, (bin .sub .i64 (ofN N) 0), a9, n9, c9, ?_, ?_, rfl, r3⟩
      · rw [pb, hpv]
        simp only
        rw [if_pos (by omega), hk]
        rfl
      · (rw [oN, sub_i64 hA (by omega)]; omega)
    refine br_f (by rw [oN, cmp_geq hA, hq3]; simp; omega) ?_
    conv => cbv
    refine ⟨[0, 1, 2, 3, 4, 5, 6, 7, 8, 9, 10], [], mix hP, by kernel_rfl, ?_⟩
    conv => cbv
    refine callP_in (fz := []) hP hA Tryd.func44 rfl (by decide) rfl ok44 (by simp [labL, lab]) ?_
    conv => cbv
    intro ρ R'' _ _ hpr
    have hL : ((xs.drop u).take k).length = k := by simp; omega
    have r3 : RI R'' .u8 a9 n9 ((xs.drop u).take k) := ri_pub (hpr _ (List.mem_cons_self ..)) hs9 (by show n9 = _; rw [hL]; omega) rfl (by show z9 = _; rw [hz9, hzd, List.take_of_length_le (by rw [ints_len]; omega)]; rfl) (fun x hx => hb.wf x (List.mem_of_mem_drop (List.mem_of_mem_take hx)))
    refine .inr ⟨(xs.drop u).take k, u + k, (bin .sub .i64 (ofN N) (bin .sub .i64 (ofN N) q3)), a9, n9, c9, ?_, ?_, rfl, r3⟩
    · rw [pb, hpv]
      simp only
      rw [if_pos (by omega), hk]
      rfl
    · (have e7 : bin .sub .i64 (N : Int) q3 = (N : Int) - q3 := sub_i64 hA (by omega); rw [oN, e7, sub_i64 hA (by omega)]; omega)
  case refine_2 =>
    intro v u hpv zs pr q hq
    conv => cbv
    simp (maxSteps := 10000000) only [nt]
    conv => cbv
    obtain ⟨hu1, hu2⟩ := pv_len hpv
    obtain ⟨hv0, hv1⟩ := pv_nn hxb hpv
    have oN0 : ofN N = (N : Int) := ofN_ hA N
    have eM : cnv .u64 (cnv .u32 (bin .add .i64 (ofN N) 1)) = (N : Int) + 1 := by rw [oN0, add_i64 hA (by omega), cnv_u32 hA (by omega), cnv_u64 hA (by omega)]
    by_cases hbig : (N : Int) + 1 < v
    · have hnone : pb xs = none := by
        rw [pb, hpv]
        simp only
        rw [if_neg (by omega)]
      refine br_t (by rw [eM, cmp_gtr hA]; simp; omega) ?_
      conv => cbv
      refine callP_in (fz := []) hP hA Tryd.func104 rfl (by decide) rfl ok104 (by simp [labL, lab]) ?_
      conv => cbv
      simp (maxSteps := 10000000) only [nf]
      conv => cbv
      refine callP_in (fz := []) hP hA Tryd.func32 rfl (by decide) rfl ok32 (by simp [labL, lab]) ?_
      conv => cbv
      refine ⟨0, [], _, _, _, 0, _, .own 4 0 _ [] rfl rfl rfl rfl (by decide), .refl _, (RI.nil (R := R) (k := .u8)).src, by decide, by decide, ?_⟩
      intro a9 n9 c9 z9 hn9 hz9 hs9
      conv => cbv
      refine callP_in (fz := []) hP hA Tryd.func43 rfl (by decide) rfl ok43 (by simp [labL, lab]) ?_
      conv => cbv
      refine ⟨[0, 1, 2, 3, 4, 5, 6, 7, 8, 9], [], mix hP, by kernel_rfl, ?_⟩
      conv => cbv
      refine br_of (fun _ => ?_) (fun _ => ?_)
      · conv => cbv
        refine callP_in (fz := []) hP hA Tryd.func44 rfl (by decide) rfl ok44 (by simp [labL, lab]) ?_
        conv => cbv
        intro ρ R'' _ _ _
        exact .inl ⟨hnone, _, _, rfl⟩
      conv => cbv
      refine ⟨[0, 1, 2, 3, 4, 5, 6, 7, 8, 9, 10], [], mix hP, by kernel_rfl, ?_⟩
      conv => cbv
      refine callP_in (fz := []) hP hA Tryd.func44 rfl (by decide) rfl ok44 (by simp [labL, lab]) ?_
      conv => cbv
      intro ρ R'' _ _ _
      exact .inl ⟨hnone, _, _, rfl⟩
    refine br_f (by rw [eM, cmp_gtr hA]; simp; omega) ?_
    conv => cbv
    obtain ⟨k, hk⟩ : ∃ k : Nat, v = k := ⟨v.toNat, by omega⟩
    refine ⟨by omega, by omega, by omega, by omega, ?_⟩
    intro am nm cm zm hnm hcm hzm
    obtain rfl : k = nm := by omega
    obtain rfl : k = cm := by omega
    rw [ints_zero] at hzm
    conv => cbv
    refine readC hP R ae au hE ai am N c k k u q hq pr xs zm hb (by omega) hc (by omega) (by omega) (Nat.le_refl _) k k (Nat.le_refl _) (by rw [hzm, ints_len]; simp) ⟨some ab, 8, 8, 5, 1, zs⟩ ?_ ?_
    case refine_2 =>
      intro hlt3 z3 pr3 q3 m3 t3 ad3 hzl3
      have hnone : pb xs = none := by
        rw [pb, hpv]
        simp only
        rw [if_neg (by omega)]
      conv => cbv
      simp (maxSteps := 10000000) only [nf]
      conv => cbv
      refine callP_in (fz := []) hP hA Tryd.func32 rfl (by decide) rfl ok32 (by simp [labL, lab]) ?_
      conv => cbv
      refine ⟨0, [], _, _, _, 0, _, .own 3 0 _ [] rfl rfl rfl rfl (by decide), .refl _, (RI.nil (R := R) (k := .u8)).src, by decide, by decide, ?_⟩
      intro a9 n9 c9 z9 hn9 hz9 hs9
      conv => cbv
      refine callP_in (fz := []) hP hA Tryd.func43 rfl (by decide) rfl ok43 (by simp [labL, lab]) ?_
      conv => cbv
      refine ⟨[0, 1, 2, 3, 4, 5, 6, 7, 8, 9], [], mix hP, by kernel_rfl, ?_⟩
      conv => cbv
      refine br_of (fun _ => ?_) (fun _ => ?_)
      · conv => cbv
        refine callP_in (fz := []) hP hA Tryd.func44 rfl (by decide) rfl ok44 (by simp [labL, lab]) ?_
        conv => cbv
        intro ρ R'' _ _ _
        exact .inl ⟨hnone, _, _, rfl⟩
      conv => cbv
      refine ⟨[0, 1, 2, 3, 4, 5, 6, 7, 8, 9, 10], [], mix hP, by kernel_rfl, ?_⟩
      conv => cbv
      refine callP_in (fz := []) hP hA Tryd.func44 rfl (by decide) rfl ok44 (by simp [labL, lab]) ?_
      conv => cbv
      intro ρ R'' _ _ _
      exact .inl ⟨hnone, _, _, rfl⟩
    intro hle3 z3 pr3 q3 m3 hq3 hm3 hz3
    have hzd0 : zm.drop k = [] := List.drop_of_length_le (by rw [hzm, ints_len]; simp)
    have hzd : z3 = ints .u8 ((xs.drop u).take k) := by rw [hz3, hzd0, List.append_nil]
    conv => cbv
    simp (maxSteps := 10000000) only [nt]
    conv => cbv
    refine callP_in (fz := []) hP hA Tryd.func32 rfl (by decide) rfl ok32 (by simp [labL, lab]) ?_
    conv => cbv
    have hL3 : z3.length = k := by rw [hzd, ints_len]; simp; omega
    have ho3 : ∀ v ∈ z3, v.oneCell' = true := by rw [hzd]; exact ints_one _ _
    refine ⟨0, [], _, _, _, k, z3.take k, .own 3 0 _ [] rfl rfl rfl rfl (by decide), .refl _, src0 (r := ⟨some am, k, k, 5, 1, z3⟩) (by simp) rfl (by show k ≤ z3.length; omega) ho3, by omega, by omega, ?_⟩
    intro a9 n9 c9 z9 hn9 hz9 hs9
    conv => cbv
    refine callP_in (fz := []) hP hA Tryd.func43 rfl (by decide) rfl ok43 (by simp [labL, lab]) ?_
    conv => cbv
    refine ⟨[0, 1, 2, 3, 4, 5, 6, 7, 8, 9], [], mix hP, by kernel_rfl, ?_⟩
    conv => cbv
    have oN : ofN N = (N : Int) := ofN_ hA N
    by_cases hend : N ≤ u + k
    · refine br_t (by rw [oN, cmp_geq hA, hq3]; simp; omega) ?_
      conv => cbv
      refine callP_in (fz := []) hP hA Tryd.func44 rfl (by decide) rfl ok44 (by simp [labL, lab]) ?_
      conv => cbv
      intro ρ R'' _ _ hpr
      have hL : ((xs.drop u).take k).length = k := by simp; omega
      have r3 : RI R'' .u8 a9 n9 ((xs.drop u).take k) := ri_pub (hpr _ (List.mem_cons_self ..)) hs9 (by show n9 = _; rw [hL]; omega) rfl (by show z9 = _; rw [hz9, hzd, List.take_of_length_le (by rw [ints_len]; omega)]; rfl) (fun x hx => hb.wf x (List.mem_of_mem_drop (List.mem_of_mem_take hx)))
      refine .inr ⟨(xs.drop u).take k, u + k, (bin .sub .i64 (ofN N) 0), a9, n9, c9, ?_, ?_, rfl, r3⟩
      · rw [pb, hpv]
        simp only
        rw [if_pos (by omega), hk]
        rfl
      · (rw [oN, sub_i64 hA (by omega)]; omega)
    refine br_f (by rw [oN, cmp_geq hA, hq3]; simp; omega) ?_
    conv => cbv
    refine ⟨[0, 1, 2, 3, 4, 5, 6, 7, 8, 9, 10], [], mix hP, by kernel_rfl, ?_⟩
    conv => cbv
    refine callP_in (fz := []) hP hA Tryd.func44 rfl (by decide) rfl ok44 (by simp [labL, lab]) ?_
    conv => cbv
    intro ρ R'' _ _ hpr
    have hL : ((xs.drop u).take k).length = k := by simp; omega
    have r3 : RI R'' .u8 a9 n9 ((xs.drop u).take k) := ri_pub (hpr _ (List.mem_cons_self ..)) hs9 (by show n9 = _; rw [hL]; omega) rfl (by show z9 = _; rw [hz9, hzd, List.take_of_length_le (by rw [ints_len]; omega)]; rfl) (fun x hx => hb.wf x (List.mem_of_mem_drop (List.mem_of_mem_take hx)))
    refine .inr ⟨(xs.drop u).take k, u + k, (bin .sub .i64 (ofN N) (bin .sub .i64 (ofN N) q3)), a9, n9, c9, ?_, ?_, rfl, r3⟩
    · rw [pb, hpv]
      simp only
      rw [if_pos (by omega), hk]
      rfl
    · (have e7 : bin .sub .i64 (N : Int) q3 = (N : Int) - q3 := sub_i64 hA (by omega); rw [oN, e7, sub_i64 hA (by omega)]; omega)
end Go.Proofs.YtnlpjppjhikooaaDoor.Vd
