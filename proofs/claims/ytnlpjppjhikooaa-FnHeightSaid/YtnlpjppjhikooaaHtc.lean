/- The height of a coinbase: what the package writes for a number, and that a script begins with it. -/
import Derived.Test.YtnlpjppjhikooaaHtb
import Derived.Test.YtnlpjppjhikooaaTyhu
set_option linter.unusedSimpArgs false
set_option linter.unusedVariables false
namespace Go.Se
open Go

/-- An index of a slice of the call's own. -/
theorem raw_se_ix {C : Cx} {s : St} {o : Oper} {T e l off n c i : Nat} {x y : Operand} {K : SV → Prop} {kd : IntKind} {ii : Int} {j : TypeInfo} (ho : o.op = .indexAddr T x y) (hx : s.ev x = some (.se l off n c)) (hy : s.ev y = some (.v (.int kd ii))) (hii : ii = i)
    (hi : i < n) (hT : C.P.underlying T = some (.slice e)) (hj : C.P.info? e = some j) (hl : l < s.nx) {q : Nat} (hq : q = off + i * j.size) (hK : K (.p l q)) : RawH C s o K := by
  subst hq
  refine ⟨.p l (off + i * j.size), hl, hK, fun ρ w hr ev hev => ?_⟩
  subst hii
  have h1 : (0 : Int) ≤ (i : Int) := Int.natCast_nonneg i
  have h2 : (i : Int) < (n : Int) := by omega
  unfold execOp
  rw [ho]
  simp only
  refine run_v ?_
  rw [hev x _ hx, hev y _ hy]
  simp only [Instr.indexAt, bind, val, asIntOf, pure, Sem.bind]
  rw [run_bind_pure (run_und hT)]
  simp only [Sem.bind]
  rw [run_bind_pure (run_und hT)]
  rw [if_pos ⟨h1, h2⟩, run_bind_pure (run_size hj)]
  simp [Sem.run, cell_add]
end Go.Se
namespace Go.Proofs.Ytnlpjppjhikooaa.Ht
open Go Go.Se Go.Proofs Go.Proofs.Ytnlpjppjhikooaa.Tyhu

theorem mix {P : Program} (hP : P = Try.prog) : P.follows .mixedOrders = true := by subst hP; rfl




set_option maxRecDepth 100000 in
theorem canonical {P : Program} (hP : P = Try.prog) (R : RO) (a : Option Addr) (n c : Nat) (xs : List Int) (h : RI R .u8 a n xs) (hn : n ≤ 80) : RetP P 95 [.slice a n c] R fun _ v => ∃ r : Int, v = .int .i64 r ∧ 0 ≤ r ∧ r ≤ 90 := by
  subst hP
  have hl := h.len
  refine retP_vc (fz := []) Try.func95 rfl (by decide) rfl ok95 ?_
  intro P bin cmp cnv neg com bnot beq ofN toN at_ sub_ scmp cat sget ssz ssub elem fld_ hP hA
  conv => cbv
  have o := ofN_ hA n
  by_cases n0 : n = 0
  · refine br_t (by rw [o, cmp_eql hA]; simp; omega) ?_
    conv => cbv
    intro ρ R'' _ _ _
    refine ⟨_, rfl, ?_⟩
    decide
  refine br_f (by rw [o, cmp_eql hA]; simp; omega) ?_
  conv => cbv
  have rest : 0 ≤ bin .add .i64 1 (ofN n) ∧ bin .add .i64 1 (ofN n) ≤ 90 ∧ 0 ≤ bin .add .i64 2 (ofN n) ∧ bin .add .i64 2 (ofN n) ≤ 90 := by rw [o, add_i64 hA (by omega), add_i64 hA (by omega)]; omega
  by_cases n1 : n = 1
  · have c1 : cmp .eql (ofN n) 1 = true := by rw [o, cmp_eql hA]; simp; omega
    simp only [c1]
    conv => cbv
    obtain ⟨b, hb⟩ : ∃ b, b = xs.getD 0 0 := ⟨_, rfl⟩
    refine ix_u8 hA h 0 rfl (by omega) ?_
    refine ld_u8 hA h (by omega) (by omega) ?_
    intro b9 hb9 b0 b1
    have hbb : b = b9 := hb.trans hb9.symm
    subst hbb
    conv => cbv
    refine br_of (fun _ => ?_) (fun _ => ?_)
    · conv => cbv
      intro ρ R'' _ _ _
      refine ⟨_, rfl, ?_⟩
      decide
    conv => cbv
    simp only [c1]
    conv => cbv
    refine ix_u8 hA h 0 rfl (by omega) ?_
    refine ld_u8 hA h (by omega) (by omega) ?_
    intro b9 hb9 b0 b1
    have hbb : b = b9 := hb.trans hb9.symm
    subst hbb
    conv => cbv
    refine br_of (fun _ => ?_) (fun _ => ?_)
    · conv => cbv
      intro ρ R'' _ _ _
      refine ⟨_, rfl, ?_⟩
      decide
    conv => cbv
    refine br_t (by rw [o, cmp_lss hA]; simp; omega) ?_
    conv => cbv
    intro ρ R'' _ _ _
    refine ⟨_, rfl, ?_⟩
    exact ⟨rest.1, rest.2.1⟩
  have c1 : cmp .eql (ofN n) 1 = false := by rw [o, cmp_eql hA]; simp; omega
  simp only [c1]
  conv => cbv
  simp only [c1]
  conv => cbv
  refine br_of (fun _ => ?_) (fun _ => ?_)
  · conv => cbv
    intro ρ R'' _ _ _
    refine ⟨_, rfl, ?_⟩
    exact ⟨rest.1, rest.2.1⟩
  conv => cbv
  refine br_t (by rw [o, cmp_leq hA]; simp; omega) ?_
  conv => cbv
  intro ρ R'' _ _ _
  refine ⟨_, rfl, ?_⟩
  exact rest.2.2

theorem one_of {v : Nat} (h : v ≠ 0) (hv : v < 2147483648) (hl : (sn v).length = 1) : sn v = [(v : Int)] ∧ v < 128 := by
  cases fm h hv with
  | a h h2 k => exact ⟨h2, k⟩
  | b h h2 k => rw [h2] at hl; simp at hl
  | c x y h h2 hv k => rw [h2] at hl; simp at hl
  | d x y h h2 hv k => rw [h2] at hl; simp at hl
  | e x y z h h2 hv k => rw [h2] at hl; simp at hl
  | f x y z h h2 hv k => rw [h2] at hl; simp at hl
  | g x y z w h h2 hv k => rw [h2] at hl; simp at hl

structure Lb where
  i : Int
  z : Int






set_option maxRecDepth 100000 in
set_option maxHeartbeats 4000000 in
theorem compareP {P : Program} (hP : P = Try.prog) (R : RO) (h : Int) (v : Nat) (hv : h = v) (hlt : v < 2147483648) (a : Option Addr) (N c : Nat) (bs : List Int) (hb : RI R .u8 a N (hs v ++ bs)) (hN : N ≤ 1000) (hc : N ≤ c) :
    RetP P 46 [.int .i32 h, .slice a N c] R fun _ r => r = .nilIface := by
  subst hP
  have hlen := hb.len
  rw [List.length_append] at hlen
  refine retP_vc (fz := []) Try.func46 rfl (by decide) rfl ok46 ?_
  intro P bin cmp cnv neg com bnot beq ofN toN at_ sub_ scmp cat sget ssz ssub elem fld_ hP hA
  conv => cbv
  have nt : bnot true = false := by rw [bnot_ hA]; rfl
  have nf : bnot false = true := by rw [bnot_ hA]; rfl
  refine callP_in (fz := []) hP hA Try.func61 rfl (by decide) rfl ok61 (by simp [labL, lab]) ?_
  conv => cbv
  refine callP_in (fz := []) hP hA Try.func60 rfl (by decide) rfl ok60 (by simp [labL, lab]) ?_
  conv => cbv
  refine callP_in (fz := []) hP hA Try.func83 rfl (by decide) rfl ok83 (by simp [labL, lab]) ?_
  conv => cbv
  obtain ⟨jo, hjo⟩ := Option.isSome_iff_exists.1 (show (Try.prog.info? 131).isSome = true by kernel_rfl)
  refine ⟨Lb, fun x => ⟨[(9, .v (.int .i64 x.i)), (8, .v (.int .i64 (ofN 1))), (7, .se 1 0 1 1), (3, .p 2 0)], R, [(2, ⟨157, [.v (.int .i64 x.z)]⟩), (1, ⟨131, [.fn (.func 84) [] [.p 0 0]]⟩), (0, ⟨3, [.v (.int .i64 5)]⟩)], 3, []⟩,
    fun m x => (m = 1 ∧ x.i = 0) ∨ (m = 0 ∧ x.i = 1 ∧ x.z = 5), ⟨1, ⟨0, 500⟩, ⟨⟨rfl, rfl, rfl, rfl, trivial⟩, rfl, ⟨rfl, rfl, rfl, trivial⟩, rfl, .refl _⟩, .inl ⟨rfl, rfl⟩⟩, ?_⟩
  rintro m ⟨i, z⟩ hx
  simp only at hx
  conv => cbv
  rcases hx with ⟨hm, hi⟩ | ⟨hm, hi, hz⟩
  · refine br_t (by rw [ofN_ hA, cmp_lss hA]; simp; omega) ?_
    conv => cbv
    refine raw_se_ix rfl rfl rfl (i := 0) (by rw [hi]; rfl) (by decide) (by rw [hP]; exact Try.underlying153) (by rw [hP]; exact hjo) (by show 1 < 3; decide) (q := 0) (by simp) ?_
    conv => cbv
    refine callP_in (fz := []) hP hA Try.func84 rfl (by decide) rfl ok84 (by simp [labL, lab]) ?_
    conv => cbv
    refine ⟨0, ⟨bin .add .i64 i 1, 5⟩, by omega, ⟨⟨rfl, rfl, rfl, rfl, trivial⟩, rfl, ⟨rfl, rfl, rfl, trivial⟩, rfl, .refl _⟩, .inr ⟨rfl, by show bin .add .i64 i 1 = 1; rw [add_i64 hA (by omega)]; omega, rfl⟩⟩
  refine br_f (by rw [ofN_ hA, cmp_lss hA]; simp; omega) ?_
  conv => cbv
  refine ⟨by decide, by omega, by omega, by omega, ?_⟩
  intro a0 n0 c0 z0 hn0 hc0 hz0
  have hn0 : n0 = 0 := by omega
  rw [hn0] at hz0
  simp only [List.replicate_zero, List.flatten_nil] at hz0
  conv => cbv
  have ec : cnv .i64 h = h := cnv_i64 hA (by omega)
  simp (maxSteps := 10000000) only [ec]
  refine callP_in (fz := []) hP hA Try.func62 rfl (by decide) rfl ok62 (by simp [labL, lab]) ?_
  conv => cbv
  refine br_f (by rw [bnot_ hA]; rfl) ?_
  conv => cbv
  refine br_f (by rw [ofN_ hA, add_i64 hA (by omega), cmp_gtr hA]; simp; omega) ?_
  conv => cbv
  have hl5 := hs_len hlt
  by_cases h0 : v = 0
  · refine br_t (by rw [cmp_eql hA]; simp; omega) ?_
    conv => cbv
    refine ⟨n0, z0, _, _, _, _, _, .row 0 ⟨(some a0), n0, c0, 5, 1, z0⟩ rfl rfl rfl, .refl _, .own _ _ _ _ _ _ rfl rfl rfl (by simp [Value.oneCell']), by omega, by omega, ?_⟩
    intro a1 n1 c1 z1 hn1 hz1 hs1
    conv => cbv
    have hll : (hs v).length = 1 := by rw [hs, if_pos h0]; rfl
    refine callP_in (fz := []) hP hA Try.func63 rfl (by decide) rfl ok63 (by simp [labL, lab]) ?_
    conv => cbv
    refine ⟨[0, 1, 2, 3, 4, 5, 6, 7, 8, 9], [], mix hP, by kernel_rfl, ?_⟩
    conv => cbv
    simp (maxSteps := 10000000) only [nt]
    conv => cbv
    refine callP_in (fz := []) hP hA Try.func64 rfl (by decide) rfl ok64 (by simp [labL, lab]) ?_
    conv => cbv
    have hzz : z1 = ints .u8 (hs v) := by (rw [hz1, hz0, hs, if_pos h0]; rfl)
    have hnn : n1 = (hs v).length := by omega
    have o3 := ofN_ hA n1
    have oN := ofN_ hA N
    have cg : cmp .geq (ofN N) (ofN n1) = true := by rw [oN, o3, cmp_geq hA]; simp; omega
    simp (maxSteps := 10000000) only [cg]
    conv => cbv
    refine ⟨0, n1, rfl, o3.symm, by omega, by omega, ?_⟩
    intro a4 n4 c4 hn4 hc4 ha4
    have h4 := hb.part' (l := 0) (m := n1) (by omega) (by omega) hn4 hc ha4
    have e4 : ((hs v ++ bs).drop 0).take (n1 - 0) = hs v := by rw [hnn, List.drop_zero, Nat.sub_zero, List.take_left]
    rw [e4] at h4
    conv => cbv
    refine callP_in (fz := []) hP hA Try.func87 rfl (by decide) rfl ok87 (by simp [labL, lab]) ?_
    conv => cbv
    refine RI.str (id h4) ?_
    intro s1 hs1'
    conv => cbv
    obtain ⟨s2, hs2'⟩ := bytes_of_ints (hs_wf hlt)
    refine ⟨n1, z1, s2, src_row (r := ⟨a1, n1, c1, 5, 1, z1⟩) (List.mem_cons_self ..) hs1 (by show z1.length = _; rw [hzz, ints_len, hnn, Nat.mul_one]) (by show ∀ v ∈ z1, _; rw [hzz]; exact ints_one _ _), by rw [hzz, hs2'], ?_⟩
    conv => cbv
    have ceq : scmp .eql s1 s2 = true := by rw [scmp_eql hA hs1' hs2']; simp
    simp (maxSteps := 10000000) only [ceq]
    conv => cbv
    simp (maxSteps := 10000000) only [nt]
    conv => cbv
    intro ρ R'' _ _ _
    rfl
  refine br_f (by rw [cmp_eql hA]; simp; omega) ?_
  conv => cbv
  have cm1 : cmp .eql h (-1) = false := by rw [cmp_eql hA]; simp; omega
  have cg1 : cmp .geq h 1 = true := by rw [cmp_geq hA]; simp; omega
  simp (maxSteps := 10000000) only [cm1]
  conv => cbv
  simp (maxSteps := 10000000) only [cg1]
  conv => cbv
  by_cases h16 : v ≤ 16
  · refine br_t (by rw [cmp_leq hA]; simp; omega) ?_
    conv => cbv
    refine ⟨n0, z0, _, _, _, _, _, .row 0 ⟨(some a0), n0, c0, 5, 1, z0⟩ rfl rfl rfl, .refl _, .own _ _ _ _ _ _ rfl rfl rfl (by simp [Value.oneCell']), by omega, by omega, ?_⟩
    intro a1 n1 c1 z1 hn1 hz1 hs1
    conv => cbv
    have hll : (hs v).length = 1 := by rw [hs, if_neg h0, if_pos h16]; rfl
    refine callP_in (fz := []) hP hA Try.func63 rfl (by decide) rfl ok63 (by simp [labL, lab]) ?_
    conv => cbv
    refine ⟨[0, 1, 2, 3, 4, 5, 6, 7, 8, 9], [], mix hP, by kernel_rfl, ?_⟩
    conv => cbv
    simp (maxSteps := 10000000) only [nt]
    conv => cbv
    refine callP_in (fz := []) hP hA Try.func64 rfl (by decide) rfl ok64 (by simp [labL, lab]) ?_
    conv => cbv
    have hzz : z1 = ints .u8 (hs v) := by (rw [hz1, hz0, hs, if_neg h0, if_pos h16, add_i64 hA (by omega), cnv_u8 hA (by omega), hv]; rfl)
    have hnn : n1 = (hs v).length := by omega
    have o3 := ofN_ hA n1
    have oN := ofN_ hA N
    have cg : cmp .geq (ofN N) (ofN n1) = true := by rw [oN, o3, cmp_geq hA]; simp; omega
    simp (maxSteps := 10000000) only [cg]
    conv => cbv
    refine ⟨0, n1, rfl, o3.symm, by omega, by omega, ?_⟩
    intro a4 n4 c4 hn4 hc4 ha4
    have h4 := hb.part' (l := 0) (m := n1) (by omega) (by omega) hn4 hc ha4
    have e4 : ((hs v ++ bs).drop 0).take (n1 - 0) = hs v := by rw [hnn, List.drop_zero, Nat.sub_zero, List.take_left]
    rw [e4] at h4
    conv => cbv
    refine callP_in (fz := []) hP hA Try.func87 rfl (by decide) rfl ok87 (by simp [labL, lab]) ?_
    conv => cbv
    refine RI.str (id h4) ?_
    intro s1 hs1'
    conv => cbv
    obtain ⟨s2, hs2'⟩ := bytes_of_ints (hs_wf hlt)
    refine ⟨n1, z1, s2, src_row (r := ⟨a1, n1, c1, 5, 1, z1⟩) (List.mem_cons_self ..) hs1 (by show z1.length = _; rw [hzz, ints_len, hnn, Nat.mul_one]) (by show ∀ v ∈ z1, _; rw [hzz]; exact ints_one _ _), by rw [hzz, hs2'], ?_⟩
    conv => cbv
    have ceq : scmp .eql s1 s2 = true := by rw [scmp_eql hA hs1' hs2']; simp
    simp (maxSteps := 10000000) only [ceq]
    conv => cbv
    simp (maxSteps := 10000000) only [nt]
    conv => cbv
    intro ρ R'' _ _ _
    rfl
  refine br_f (by rw [cmp_leq hA]; simp; omega) ?_
  conv => cbv
  refine (bytesP hP R h v hv h0 hlt).callP rfl ?_
  rintro R1 _ hR1 ⟨ad, nd, cd, rfl, hd, hcd⟩
  conv => cbv
  have hdl := hd.len
  have hs4 := sn_b4 h0 hlt
  have hsv : hs v = ((sn v).length : Int) :: sn v := by rw [hs, if_neg h0, if_neg h16]
  have hll : (hs v).length = nd + 1 := by rw [hsv, List.length_cons, hdl]
  refine callP_in (fz := []) hP hA Try.func85 rfl (by decide) rfl ok85 (by simp [labL, lab]) ?_
  conv => cbv
  refine br_f (by rw [bnot_ hA]; rfl) ?_
  conv => cbv
  refine (canonical hP R1 ad nd cd (sn v) hd (by omega)).callQ rfl ?_
  rintro _ ⟨r, rfl, hr0, hr1⟩
  conv => cbv
  have od := ofN_ hA nd
  refine br_f (by rw [ofN_ hA, add_i64 hA (by omega), cmp_gtr hA]; simp; omega) ?_
  conv => cbv
  refine br_f (by rw [od, cmp_gtr hA]; simp; omega) ?_
  conv => cbv
  refine callP_in (fz := []) hP hA Try.func96 rfl (by decide) rfl ok96 (by simp [labL, lab]) ?_
  conv => cbv
  have d1 : cmp .eql (ofN nd) 0 = false := by rw [od, cmp_eql hA]; simp; omega
  simp (maxSteps := 10000000) only [d1]
  conv => cbv
  by_cases n1' : nd = 1
  · obtain ⟨D, hD⟩ : ∃ D, D = (sn v).getD 0 0 := ⟨_, rfl⟩
    obtain ⟨hone, hv128⟩ := one_of h0 hlt (by omega)
    have hDv : D = v := by rw [hD, hone]; rfl
    have d2 : cmp .eql (ofN nd) 1 = true := by rw [od, cmp_eql hA]; simp; omega
    have d3 : cmp .eql D 0 = false := by rw [cmp_eql hA]; simp; omega
    simp (maxSteps := 10000000) only [d2]
    conv => cbv
    refine ix_u8 hA hd 0 rfl (by omega) ?_
    refine ld_u8 hA hd (by omega) (by omega) ?_
    intro b9 hb9 b0 b1
    have hbb : D = b9 := hD.trans hb9.symm
    subst hbb
    conv => cbv
    simp (maxSteps := 10000000) only [d3]
    conv => cbv
    simp (maxSteps := 10000000) only [d2]
    conv => cbv
    refine ix_u8 hA hd 0 rfl (by omega) ?_
    refine ld_u8 hA hd (by omega) (by omega) ?_
    intro b9 hb9 b0 b1
    have hbb : D = b9 := hD.trans hb9.symm
    subst hbb
    conv => cbv
    refine br_f (by rw [cmp_leq hA]; simp; omega) ?_
    conv => cbv
    simp (maxSteps := 10000000) only [d2]
    conv => cbv
    refine ix_u8 hA hd 0 rfl (by omega) ?_
    refine ld_u8 hA hd (by omega) (by omega) ?_
    intro b9 hb9 b0 b1
    have hbb : D = b9 := hD.trans hb9.symm
    subst hbb
    conv => cbv
    refine br_f (by rw [cmp_eql hA]; simp; omega) ?_
    conv => cbv
    refine br_t (by rw [od, cmp_lss hA]; simp; omega) ?_
    conv => cbv
    refine ⟨n0, z0, _, _, _, _, _, .row 0 ⟨(some a0), n0, c0, 5, 1, z0⟩ rfl rfl rfl, .refl _, .own _ _ _ _ _ _ rfl rfl rfl (by simp [Value.oneCell']), by omega, by omega, ?_⟩
    intro a1 n1 c1 z1 hn1 hz1 hs1
    conv => cbv
    refine ⟨n1, z1, _, _, _, _, _, .row 0 ⟨a1, n1, c1, 5, 1, z1⟩ rfl rfl rfl, .refl _, hd.src, by omega, by omega, ?_⟩
    intro a2 n2 c2 z2 hn2 hz2 hs2
    conv => cbv
    refine callP_in (fz := []) hP hA Try.func63 rfl (by decide) rfl ok63 (by simp [labL, lab]) ?_
    conv => cbv
    refine ⟨[0, 1, 2, 3, 4, 5, 6, 7, 8, 9], [], mix hP, by kernel_rfl, ?_⟩
    conv => cbv
    simp (maxSteps := 10000000) only [nt]
    conv => cbv
    refine callP_in (fz := []) hP hA Try.func64 rfl (by decide) rfl ok64 (by simp [labL, lab]) ?_
    conv => cbv
    have hzz : z2 = ints .u8 (hs v) := by (rw [hz2, hz1, hz0, hsv, od, add_i64 hA (by omega), cnv_u8 hA (by omega), ← hdl]; simp [ints])
    have hnn : n2 = (hs v).length := by omega
    have o3 := ofN_ hA n2
    have oN := ofN_ hA N
    have cg : cmp .geq (ofN N) (ofN n2) = true := by rw [oN, o3, cmp_geq hA]; simp; omega
    simp (maxSteps := 10000000) only [cg]
    conv => cbv
    refine ⟨0, n2, rfl, o3.symm, by omega, by omega, ?_⟩
    intro a4 n4 c4 hn4 hc4 ha4
    have h4 := hb.part' (l := 0) (m := n2) (by omega) (by omega) hn4 hc ha4
    have e4 : ((hs v ++ bs).drop 0).take (n2 - 0) = hs v := by rw [hnn, List.drop_zero, Nat.sub_zero, List.take_left]
    rw [e4] at h4
    conv => cbv
    refine callP_in (fz := []) hP hA Try.func87 rfl (by decide) rfl ok87 (by simp [labL, lab]) ?_
    conv => cbv
    refine RI.str ((fun q => RI.le q hR1) h4) ?_
    intro s1 hs1'
    conv => cbv
    obtain ⟨s2, hs2'⟩ := bytes_of_ints (hs_wf hlt)
    refine ⟨n2, z2, s2, src_row (r := ⟨a2, n2, c2, 5, 1, z2⟩) (List.mem_cons_self ..) hs2 (by show z2.length = _; rw [hzz, ints_len, hnn, Nat.mul_one]) (by show ∀ v ∈ z2, _; rw [hzz]; exact ints_one _ _), by rw [hzz, hs2'], ?_⟩
    conv => cbv
    have ceq : scmp .eql s1 s2 = true := by rw [scmp_eql hA hs1' hs2']; simp
    simp (maxSteps := 10000000) only [ceq]
    conv => cbv
    simp (maxSteps := 10000000) only [nt]
    conv => cbv
    intro ρ R'' _ _ _
    rfl
  have d2 : cmp .eql (ofN nd) 1 = false := by rw [od, cmp_eql hA]; simp; omega
  simp (maxSteps := 10000000) only [d2]
  conv => cbv
  simp (maxSteps := 10000000) only [d2]
  conv => cbv
  simp (maxSteps := 10000000) only [d2]
  conv => cbv
  refine br_t (by rw [od, cmp_lss hA]; simp; omega) ?_
  conv => cbv
  refine ⟨n0, z0, _, _, _, _, _, .row 0 ⟨(some a0), n0, c0, 5, 1, z0⟩ rfl rfl rfl, .refl _, .own _ _ _ _ _ _ rfl rfl rfl (by simp [Value.oneCell']), by omega, by omega, ?_⟩
  intro a1 n1 c1 z1 hn1 hz1 hs1
  conv => cbv
  refine ⟨n1, z1, _, _, _, _, _, .row 0 ⟨a1, n1, c1, 5, 1, z1⟩ rfl rfl rfl, .refl _, hd.src, by omega, by omega, ?_⟩
  intro a2 n2 c2 z2 hn2 hz2 hs2
  conv => cbv
  refine callP_in (fz := []) hP hA Try.func63 rfl (by decide) rfl ok63 (by simp [labL, lab]) ?_
  conv => cbv
  refine ⟨[0, 1, 2, 3, 4, 5, 6, 7, 8, 9], [], mix hP, by kernel_rfl, ?_⟩
  conv => cbv
  simp (maxSteps := 10000000) only [nt]
  conv => cbv
  refine callP_in (fz := []) hP hA Try.func64 rfl (by decide) rfl ok64 (by simp [labL, lab]) ?_
  conv => cbv
  have hzz : z2 = ints .u8 (hs v) := by (rw [hz2, hz1, hz0, hsv, od, add_i64 hA (by omega), cnv_u8 hA (by omega), ← hdl]; simp [ints])
  have hnn : n2 = (hs v).length := by omega
  have o3 := ofN_ hA n2
  have oN := ofN_ hA N
  have cg : cmp .geq (ofN N) (ofN n2) = true := by rw [oN, o3, cmp_geq hA]; simp; omega
  simp (maxSteps := 10000000) only [cg]
  conv => cbv
  refine ⟨0, n2, rfl, o3.symm, by omega, by omega, ?_⟩
  intro a4 n4 c4 hn4 hc4 ha4
  have h4 := hb.part' (l := 0) (m := n2) (by omega) (by omega) hn4 hc ha4
  have e4 : ((hs v ++ bs).drop 0).take (n2 - 0) = hs v := by rw [hnn, List.drop_zero, Nat.sub_zero, List.take_left]
  rw [e4] at h4
  conv => cbv
  refine callP_in (fz := []) hP hA Try.func87 rfl (by decide) rfl ok87 (by simp [labL, lab]) ?_
  conv => cbv
  refine RI.str ((fun q => RI.le q hR1) h4) ?_
  intro s1 hs1'
  conv => cbv
  obtain ⟨s2, hs2'⟩ := bytes_of_ints (hs_wf hlt)
  refine ⟨n2, z2, s2, src_row (r := ⟨a2, n2, c2, 5, 1, z2⟩) (List.mem_cons_self ..) hs2 (by show z2.length = _; rw [hzz, ints_len, hnn, Nat.mul_one]) (by show ∀ v ∈ z2, _; rw [hzz]; exact ints_one _ _), by rw [hzz, hs2'], ?_⟩
  conv => cbv
  have ceq : scmp .eql s1 s2 = true := by rw [scmp_eql hA hs1' hs2']; simp
  simp (maxSteps := 10000000) only [ceq]
  conv => cbv
  simp (maxSteps := 10000000) only [nt]
  conv => cbv
  intro ρ R'' _ _ _
  rfl
end Go.Proofs.Ytnlpjppjhikooaa.Ht
