/- Numbers of variable length: the package's, written. -/
import Derived.Test.YtnlpjppjhikooaaDoorVra
set_option linter.unusedSimpArgs false
set_option linter.unusedVariables false
namespace Go.Proofs.YtnlpjppjhikooaaDoor.Vr
open Go Go.Se Go.Proofs Go.Proofs.YtnlpjppjhikooaaDoor.Tyvr

set_option maxRecDepth 100000 in
/-- What is given back is not looked at. -/
theorem harmReturn {P : Program} (hP : P = Tryd.prog) (a : Option Addr) (n c : Nat) (w : World) : CallsD P 66 #[.agg #[], .slice a n c] .returning w fun e u w' => u = .returning ∧ ((∃ v, e = .returned v) ∧ Keep (fun _ => False) w w') := by
  subst hP
  refine callsD_of_vc Tryd.func66 rfl (Nat.le_of_ble_eq_true rfl) ok66 ?_ w
  intro P' A _ _
  conv => cbv
  trivial

theorem methWrite {P : Program} (hP : P = Tryd.prog) : Meth P 69 "Write" 153 := by
  subst hP
  exact meth_ptr (by kernel_rfl) Tryd.underlying69

theorem ints_zero (k : IntKind) (n : Nat) : (List.replicate n [Value.int k 0]).flatten = ints k (List.replicate n 0) := by
  induction n with
  | zero => rfl
  | succ n ih => rw [List.replicate_succ, List.flatten_cons, ih, List.replicate_succ]; rfl

theorem add0 (a : Addr) : a.add 0 = a := by simp [Addr.add]

theorem src0 {fr : List (Nat × SV)} {R : RO} {hp : List (Nat × HB)} {nx : Nat} {rs : List Row} {r : Row} (hm : r ∈ rs) {ad : Addr} (ha : r.a = some ad) {n c : Nat} (hl : n ≤ r.xs.length) (h1 : ∀ v ∈ r.xs, v.oneCell' = true) :
    SrcK ⟨fr, R, hp, nx, rs⟩ 1 (.v (.slice (some ad) n c)) n (r.xs.take n) := by
  have t := src_part (fr := fr) (R := R) (hp := hp) (nx := nx) (c := c) hm ha (l := 0) (n := n) (by omega) h1
  rw [add0] at t
  exact t

theorem ld_sub {bin : BinOp → IntKind → Int → Int → Int} {cmp : BinOp → Int → Int → Bool} {cnv : IntKind → Int → Int} {neg : IntKind → Int → Int} {com : IntKind → Int → Int} {bnot : Bool → Bool} {beq : Bool → Bool → Bool} {ofN : Nat → Int} {toN : Int → Nat} {at_ : Nat → Nat → Nat → Nat} {sub_ : Nat → Nat → Nat} {scmp : BinOp → ByteArray → ByteArray → Bool} {cat : ByteArray → ByteArray → ByteArray} {sget : ByteArray → Int → Int} {ssz : ByteArray → Nat} {ssub : ByteArray → Nat → Nat → ByteArray} {elem : Option Addr → Int → Nat → Addr} {fld_ : Addr → Nat → Addr}
    (hA : (⟨bin, cmp, cnv, neg, com, bnot, beq, ofN, toN, at_, sub_, scmp, cat, sget, ssz, ssub, elem, fld_⟩ : Ar) = Ar.real)
    {R : RO} {rs : List Row} (m : Nat) {r : Row} (hr : rs[m]? = some r) {ad b : Addr} (ha : r.a = some ad) {l : Nat} (hb : b = ad.add l) {i : Int} {v : Value} (h : r.xs[l + i.toNat]? = some v) {K : Value → Prop}
    (hk : K v) : LoadP R rs (elem (some b) i 1) false 1 K := by
  refine ⟨_, .inr ⟨r, List.mem_of_getElem? hr, ad, l + i.toNat, ha, ?_, h⟩, hk⟩
  rw [elem_is hA]
  show b.add (i.toNat * 1) = _
  rw [Nat.mul_one, hb, add_add]

theorem byte_ {bin : BinOp → IntKind → Int → Int → Int} {cmp : BinOp → Int → Int → Bool} {cnv : IntKind → Int → Int} {neg : IntKind → Int → Int} {com : IntKind → Int → Int} {bnot : Bool → Bool} {beq : Bool → Bool → Bool} {ofN : Nat → Int} {toN : Int → Nat} {at_ : Nat → Nat → Nat → Nat} {sub_ : Nat → Nat → Nat} {scmp : BinOp → ByteArray → ByteArray → Bool} {cat : ByteArray → ByteArray → ByteArray} {sget : ByteArray → Int → Int} {ssz : ByteArray → Nat} {ssub : ByteArray → Nat → Nat → ByteArray} {elem : Option Addr → Int → Nat → Addr} {fld_ : Addr → Nat → Addr}
    (hA : (⟨bin, cmp, cnv, neg, com, bnot, beq, ofN, toN, at_, sub_, scmp, cat, sget, ssz, ssub, elem, fld_⟩ : Ar) = Ar.real)
    (v : Nat) : cnv .u8 (v : Int) = ((v % 256 : Nat) : Int) := by
  rw [cnv_ hA]
  show (v : Int) % 256 = _
  omega











set_option maxRecDepth 100000 in
set_option maxHeartbeats 2000000 in
theorem writeP {P : Program} (hP : P = Tryd.prog) (R : RO) (vv : Int) (v : Nat) (hv : vv = v) (h64 : v < 18446744073709551616) : RowP P 15 [.int .u64 vv] R 5 1 (Bs .u8 (vi v)) := by
  subst hP
  refine rowP_vc (fz := []) Tryd.func15 rfl (by decide) rfl ok15 ?_
  intro P bin cmp cnv neg com bnot beq ofN toN at_ sub_ scmp cat sget ssz ssub elem fld_ hP hA
  conv => cbv
  refine callP_in (fz := []) hP hA Tryd.func37 rfl (by decide) rfl ok37 (by simp [labL, lab]) ?_
  conv => cbv
  refine callP_in (fz := []) hP hA Tryd.func65 rfl (by decide) rfl ok65 (by simp [labL, lab]) ?_
  conv => cbv
  refine ⟨by decide, by decide, by decide, by decide, ?_⟩
  intro ab nb cb zb hnb hcb hzb
  obtain rfl : nb = 8 := by omega
  obtain rfl : cb = 8 := by omega
  rw [ints_zero] at hzb
  conv => cbv
  refine defer_static rfl rfl rfl ⟨_, by rw [hP]; exact Tryd.func66, by decide, rfl⟩ (fun ρ w => harmReturn hP _ _ _ w) ?_
  conv => cbv
  refine callP_in (fz := []) hP hA Tryd.func67 rfl (by decide) rfl ok67 (by simp [labL, lab]) ?_
  conv => cbv
  by_cases h1 : v < 253
  · refine br_t (by rw [cmp_lss hA]; simp; omega) ?_
    conv => cbv
    refine ⟨by decide, by rw [ofN_ hA]; decide, rfl, ?_⟩
    refine ⟨0, _, ab, 0, rfl, rfl, by rw [elem_is hA]; rfl, by show 0 + 1 ≤ zb.length; rw [hzb]; decide, ?_⟩
    intro z1 hz1
    conv => cbv
    refine ⟨[0, 1, 2, 3, 4, 5, 6, 7, 8, 9, 10, 11], [6], mix hP, by kernel_rfl, ?_⟩
    conv => cbv
    refine ⟨0, 1, rfl, rfl, by decide, by decide, ?_⟩
    intro a2 n2 c2 hn2 hc2 ha2
    obtain rfl : n2 = 1 := by omega
    obtain rfl : a2 = some (ab.add 0) := by rw [ha2]; rfl
    conv => cbv
    refine nilP_ptr (f := 153) (T := 69) (m := "Write") rfl rfl (fun ρ => ⟨⟨ρ 0, 0, none⟩, rfl⟩) (by rw [hP]; kernel_rfl) ?_
    conv => cbv
    refine gen_invoke (x := .p 0 0) (T := 69) rfl rfl rfl rfl rfl (methWrite hP) ?_
    have l1 : z1.length = 8 := by rw [hz1, hzb]; rfl
    have o1 : ∀ v ∈ z1, v.oneCell' = true := by rw [hz1, hzb]; exact ints_one .u8 [cnv .u8 vv, 0, 0, 0, 0, 0, 0, 0]
    have nt : bnot true = false := by rw [bnot_ hA]; rfl
    have nf : bnot false = true := by rw [bnot_ hA]; rfl
    refine callP_in (fz := []) hP hA Tryd.func153 rfl (by decide) rfl ok153 (by simp [labL, lab]) ?_
    conv => cbv
    refine callP_in (fz := []) hP hA Tryd.func155 rfl (by decide) rfl ok155 (by simp [labL, lab]) ?_
    conv => cbv
    refine gen_cap hA rfl rfl rfl rfl (by rw [hP]; exact Tryd.underlying22) ?_
    conv => cbv
    have o0 := ofN_ hA 0
    have oM : ofN 1 = (1 : Int) := ofN_ hA 1
    have es : bin .sub .i64 (ofN 0) (ofN 0) = 0 := by rw [o0]; exact sub_i64 hA (by omega)
    refine br_f (by rw [es, oM, cmp_leq hA]; rfl) ?_
    conv => cbv
    simp (maxSteps := 10000000) only [nf]
    conv => cbv
    refine callP_in (fz := []) hP hA Tryd.func156 rfl (by decide) rfl ok156 (by simp [labL, lab]) ?_
    conv => cbv
    refine callP_in (fz := []) hP hA Tryd.func157 rfl (by decide) rfl ok157 (by simp [labL, lab]) ?_
    conv => cbv
    refine ⟨[0, 1, 2, 3, 4, 5, 6, 7, 8, 9, 10], [], mix hP, by kernel_rfl, ?_⟩
    conv => cbv
    have o0' : ofN 0 = 0 := o0
    have e0 : bin .sub .i64 0 0 = 0 := sub_i64 hA (by omega)
    have ct : cmp .eql 0 0 = true := by rw [cmp_eql hA]; rfl
    have cn : cmp .neq 0 0 = false := by rw [cmp_neq hA]; rfl
    simp (maxSteps := 10000000) only [o0', e0, ct]
    conv => cbv
    simp (maxSteps := 10000000) only [o0', e0, ct, cn]
    conv => cbv
    refine callP_in (fz := []) hP hA Tryd.func155 rfl (by decide) rfl ok155 (by simp [labL, lab]) ?_
    conv => cbv
    refine gen_cap hA rfl rfl rfl rfl (by rw [hP]; exact Tryd.underlying22) ?_
    conv => cbv
    refine br_f (by rw [es, oM, cmp_leq hA]; rfl) ?_
    conv => cbv
    refine br_t (by rw [oM, cmp_leq hA]; rfl) ?_
    conv => cbv
    simp (maxSteps := 10000000) only [oM]
    conv => cbv
    refine ⟨by decide, by decide, by decide, by decide, ?_⟩
    intro aq nq cq zq hnq hcq hzq
    obtain rfl : nq = 1 := by omega
    obtain rfl : cq = 64 := by omega
    rw [ints_zero] at hzq
    conv => cbv
    refine ⟨0, 1, rfl, rfl, by decide, by decide, ?_⟩
    intro a3 n3 c3 hn3 hc3 ha3
    obtain rfl : n3 = 1 := by omega
    obtain rfl : a3 = some (aq.add 0) := by rw [ha3]; rfl
    conv => cbv
    have qlen : zq.length = 1 := by rw [hzq, ints_len]; rfl
    refine ⟨1, z1.take 1, src0 (r := ⟨some ab, 8, 8, 5, 1, z1⟩) (by simp) rfl (by show 1 ≤ z1.length; rw [l1]; decide) o1, .inr ⟨0, _, aq, 0, aq, rfl, rfl, rfl, (add0 _).symm, by show 0 + min 1 1 * 1 ≤ zq.length; rw [qlen]; decide, ?_⟩⟩
    intro nw zw hnw hzw
    obtain rfl : nw = 1 := by rw [hnw]; decide
    conv => cbv
    refine callP_in (fz := []) hP hA Tryd.func38 rfl (by decide) rfl ok38 (by simp [labL, lab]) ?_
    conv => cbv
    refine ⟨[0, 1, 2, 3, 4, 5, 6, 7, 8, 9], [], mix hP, by kernel_rfl, ?_⟩
    conv => cbv
    refine ⟨0, 1, rfl, rfl, by decide, by decide, ?_⟩
    intro a4 n4 c4 hn4 hc4 ha4
    obtain rfl : n4 = 1 := by omega
    obtain rfl : a4 = some (aq.add 0) := by rw [ha4]; rfl
    conv => cbv
    obtain rfl : c4 = 64 := by omega
    refine fun _ => .inr (.inl ⟨⟨some aq, 1, 64, 5, 1, zw⟩, by simp, rfl, rfl, rfl, ?_, ?_⟩)
    · rw [vi, if_pos h1]; rfl
    · rw [vi, if_pos h1]
      have e : cnv .u8 vv = (v : Int) := by rw [hv]; exact cnv_u8 hA (by omega)
      show zw = _
      rw [hzw, hz1, hzq, hzb, e]
      rfl
  refine br_f (by rw [cmp_lss hA]; simp; omega) ?_
  conv => cbv
  by_cases h2 : v < 65536
  · refine br_t (by rw [cmp_leq hA]; simp; omega) ?_
    conv => cbv
    refine ⟨by decide, by rw [ofN_ hA]; decide, rfl, ?_⟩
    refine ⟨0, _, ab, 0, rfl, rfl, by rw [elem_is hA]; rfl, by show 0 + 1 ≤ zb.length; rw [hzb]; decide, ?_⟩
    intro z1 hz1
    conv => cbv
    refine ⟨[0, 1, 2, 3, 4, 5], [5], mix hP, by kernel_rfl, ?_⟩
    conv => cbv
    refine ⟨_, ⟨[], rfl, rfl, fun i v h => nomatch h⟩, ?_⟩
    conv => cbv
    refine ⟨1, 3, rfl, rfl, by decide, by decide, ?_⟩
    intro a5 n5 c5 hn5 hc5 ha5
    obtain rfl : n5 = 2 := by omega
    obtain rfl : c5 = 7 := by omega
    obtain ⟨b1, hb1⟩ : ∃ b1, b1 = ab.add 1 := ⟨_, rfl⟩
    obtain rfl : a5 = some b1 := by rw [ha5, hb1]; rfl
    conv => cbv
    refine callP_in (fz := []) hP hA Tryd.func99 rfl (by decide) rfl ok99 (by simp [labL, lab]) ?_
    conv => cbv
    have l1 : z1.length = 8 := by rw [hz1, hzb]; rfl
    obtain ⟨vx, hvx⟩ : ∃ v, z1[1 + 1]? = some v := ⟨_, List.getElem?_eq_getElem (by rw [l1]; decide)⟩
    refine ⟨by decide, by rw [ofN_ hA]; decide, rfl, ?_⟩
    refine ld_sub hA 0 (r := ⟨some ab, 8, 8, 5, 1, z1⟩) rfl rfl hb1 (l := 1) (i := 1) (v := vx) hvx ?_
    conv => cbv
    refine ⟨by decide, by rw [ofN_ hA]; decide, rfl, ?_⟩
    refine ⟨0, _, ab, 1 + 0, rfl, rfl, by rw [elem_is hA]; show b1.add (0 * 1) = _; rw [hb1, add_add], by show 1 + 0 + 1 ≤ z1.length; rw [l1]; decide, ?_⟩
    intro z2 hz2
    have l2 : z2.length = 8 := by rw [hz2]; simp only [List.length_append, List.length_take, List.length_drop, List.length_cons, List.length_nil, l1]; rfl
    conv => cbv
    refine ⟨by decide, ?_⟩
    refine ⟨by decide, by rw [ofN_ hA]; decide, rfl, ?_⟩
    refine ⟨0, _, ab, 1 + 1, rfl, rfl, by rw [elem_is hA]; show b1.add (1 * 1) = _; rw [hb1, add_add], by show 1 + 1 + 1 ≤ z2.length; rw [l2]; decide, ?_⟩
    intro z3 hz3
    have l3 : z3.length = 8 := by rw [hz3]; simp only [List.length_append, List.length_take, List.length_drop, List.length_cons, List.length_nil, l2]; rfl
    conv => cbv
    refine ⟨[0, 1, 2, 3, 4, 5, 6, 7, 8, 9, 10, 11], [6], mix hP, by kernel_rfl, ?_⟩
    conv => cbv
    refine ⟨0, 3, rfl, rfl, by decide, by decide, ?_⟩
    intro a2 n2 c2 hn2 hc2 ha2
    obtain rfl : n2 = 3 := by omega
    obtain rfl : a2 = some (ab.add 0) := by rw [ha2]; rfl
    conv => cbv
    refine nilP_ptr (f := 153) (T := 69) (m := "Write") rfl rfl (fun ρ => ⟨⟨ρ 0, 0, none⟩, rfl⟩) (by rw [hP]; kernel_rfl) ?_
    conv => cbv
    refine gen_invoke (x := .p 0 0) (T := 69) rfl rfl rfl rfl rfl (methWrite hP) ?_
    have e1 : cnv .u8 (cnv .u16 vv) = ((v / 256 ^ 0 % 256 : Nat) : Int) := by rw [hv, cnv_u16 hA (by omega), byte_ hA]; simp
    have e2 : cnv .u8 (bin .shr .u16 (cnv .u16 vv) 8) = ((v / 256 ^ 1 % 256 : Nat) : Int) := by rw [hv, cnv_u16 hA (by omega)]; have := shn_u16 hA (x := v) (y := 8) (by omega); rw [show (8 : Int) = ((8 : Nat) : Int) from rfl, this, byte_ hA]
    have o1 : ∀ v ∈ z3, v.oneCell' = true := by rw [hz3, hz2, hz1, hzb, e1, e2]; exact ints_one .u8 [253, _, _, 0, 0, 0, 0, 0]
    have nt : bnot true = false := by rw [bnot_ hA]; rfl
    have nf : bnot false = true := by rw [bnot_ hA]; rfl
    refine callP_in (fz := []) hP hA Tryd.func153 rfl (by decide) rfl ok153 (by simp [labL, lab]) ?_
    conv => cbv
    refine callP_in (fz := []) hP hA Tryd.func155 rfl (by decide) rfl ok155 (by simp [labL, lab]) ?_
    conv => cbv
    refine gen_cap hA rfl rfl rfl rfl (by rw [hP]; exact Tryd.underlying22) ?_
    conv => cbv
    have o0 := ofN_ hA 0
    have oM : ofN 3 = (3 : Int) := ofN_ hA 3
    have es : bin .sub .i64 (ofN 0) (ofN 0) = 0 := by rw [o0]; exact sub_i64 hA (by omega)
    refine br_f (by rw [es, oM, cmp_leq hA]; rfl) ?_
    conv => cbv
    simp (maxSteps := 10000000) only [nf]
    conv => cbv
    refine callP_in (fz := []) hP hA Tryd.func156 rfl (by decide) rfl ok156 (by simp [labL, lab]) ?_
    conv => cbv
    refine callP_in (fz := []) hP hA Tryd.func157 rfl (by decide) rfl ok157 (by simp [labL, lab]) ?_
    conv => cbv
    refine ⟨[0, 1, 2, 3, 4, 5, 6, 7, 8, 9, 10], [], mix hP, by kernel_rfl, ?_⟩
    conv => cbv
    have o0' : ofN 0 = 0 := o0
    have e0 : bin .sub .i64 0 0 = 0 := sub_i64 hA (by omega)
    have ct : cmp .eql 0 0 = true := by rw [cmp_eql hA]; rfl
    have cn : cmp .neq 0 0 = false := by rw [cmp_neq hA]; rfl
    simp (maxSteps := 10000000) only [o0', e0, ct]
    conv => cbv
    simp (maxSteps := 10000000) only [o0', e0, ct, cn]
    conv => cbv
    refine callP_in (fz := []) hP hA Tryd.func155 rfl (by decide) rfl ok155 (by simp [labL, lab]) ?_
    conv => cbv
    refine gen_cap hA rfl rfl rfl rfl (by rw [hP]; exact Tryd.underlying22) ?_
    conv => cbv
    refine br_f (by rw [es, oM, cmp_leq hA]; rfl) ?_
    conv => cbv
    refine br_t (by rw [oM, cmp_leq hA]; rfl) ?_
    conv => cbv
    simp (maxSteps := 10000000) only [oM]
    conv => cbv
    refine ⟨by decide, by decide, by decide, by decide, ?_⟩
    intro aq nq cq zq hnq hcq hzq
    obtain rfl : nq = 3 := by omega
    obtain rfl : cq = 64 := by omega
    rw [ints_zero] at hzq
    conv => cbv
    refine ⟨0, 3, rfl, rfl, by decide, by decide, ?_⟩
    intro a3 n3 c3 hn3 hc3 ha3
    obtain rfl : n3 = 3 := by omega
    obtain rfl : a3 = some (aq.add 0) := by rw [ha3]; rfl
    conv => cbv
    have qlen : zq.length = 3 := by rw [hzq, ints_len]; rfl
    refine ⟨3, z3.take 3, src0 (r := ⟨some ab, 8, 8, 5, 1, z3⟩) (by simp) rfl (by show 3 ≤ z3.length; rw [l3]; decide) o1, .inr ⟨0, _, aq, 0, aq, rfl, rfl, rfl, (add0 _).symm, by show 0 + min 3 3 * 1 ≤ zq.length; rw [qlen]; decide, ?_⟩⟩
    intro nw zw hnw hzw
    obtain rfl : nw = 3 := by rw [hnw]; decide
    conv => cbv
    refine callP_in (fz := []) hP hA Tryd.func38 rfl (by decide) rfl ok38 (by simp [labL, lab]) ?_
    conv => cbv
    refine ⟨[0, 1, 2, 3, 4, 5, 6, 7, 8, 9], [], mix hP, by kernel_rfl, ?_⟩
    conv => cbv
    refine ⟨0, 3, rfl, rfl, by decide, by decide, ?_⟩
    intro a4 n4 c4 hn4 hc4 ha4
    obtain rfl : n4 = 3 := by omega
    obtain rfl : a4 = some (aq.add 0) := by rw [ha4]; rfl
    conv => cbv
    obtain rfl : c4 = 64 := by omega
    refine fun _ => .inr (.inl ⟨⟨some aq, 3, 64, 5, 1, zw⟩, by simp, rfl, rfl, rfl, ?_, ?_⟩)
    · rw [vi, if_neg h1, if_pos h2]; rfl
    · rw [vi, if_neg h1, if_pos h2]
      show zw = _
      rw [hzw, hz3, hz2, hz1, hzq, hzb, e1, e2]
      rfl
  refine br_f (by rw [cmp_leq hA]; simp; omega) ?_
  conv => cbv
  by_cases h3 : v < 4294967296
  · refine br_t (by rw [cmp_leq hA]; simp; omega) ?_
    conv => cbv
    refine ⟨by decide, by rw [ofN_ hA]; decide, rfl, ?_⟩
    refine ⟨0, _, ab, 0, rfl, rfl, by rw [elem_is hA]; rfl, by show 0 + 1 ≤ zb.length; rw [hzb]; decide, ?_⟩
    intro z1 hz1
    conv => cbv
    refine ⟨[0, 1, 2, 3, 4, 5], [5], mix hP, by kernel_rfl, ?_⟩
    conv => cbv
    refine ⟨_, ⟨[], rfl, rfl, fun i v h => nomatch h⟩, ?_⟩
    conv => cbv
    refine ⟨1, 5, rfl, rfl, by decide, by decide, ?_⟩
    intro a5 n5 c5 hn5 hc5 ha5
    obtain rfl : n5 = 4 := by omega
    obtain rfl : c5 = 7 := by omega
    obtain ⟨b1, hb1⟩ : ∃ b1, b1 = ab.add 1 := ⟨_, rfl⟩
    obtain rfl : a5 = some b1 := by rw [ha5, hb1]; rfl
    conv => cbv
    refine callP_in (fz := []) hP hA Tryd.func100 rfl (by decide) rfl ok100 (by simp [labL, lab]) ?_
    conv => cbv
    have l1 : z1.length = 8 := by rw [hz1, hzb]; rfl
    obtain ⟨vx, hvx⟩ : ∃ v, z1[1 + 3]? = some v := ⟨_, List.getElem?_eq_getElem (by rw [l1]; decide)⟩
    refine ⟨by decide, by rw [ofN_ hA]; decide, rfl, ?_⟩
    refine ld_sub hA 0 (r := ⟨some ab, 8, 8, 5, 1, z1⟩) rfl rfl hb1 (l := 1) (i := 3) (v := vx) hvx ?_
    conv => cbv
    refine ⟨by decide, by rw [ofN_ hA]; decide, rfl, ?_⟩
    refine ⟨0, _, ab, 1 + 0, rfl, rfl, by rw [elem_is hA]; show b1.add (0 * 1) = _; rw [hb1, add_add], by show 1 + 0 + 1 ≤ z1.length; rw [l1]; decide, ?_⟩
    intro z2 hz2
    have l2 : z2.length = 8 := by rw [hz2]; simp only [List.length_append, List.length_take, List.length_drop, List.length_cons, List.length_nil, l1]; rfl
    conv => cbv
    refine ⟨by decide, ?_⟩
    refine ⟨by decide, by rw [ofN_ hA]; decide, rfl, ?_⟩
    refine ⟨0, _, ab, 1 + 1, rfl, rfl, by rw [elem_is hA]; show b1.add (1 * 1) = _; rw [hb1, add_add], by show 1 + 1 + 1 ≤ z2.length; rw [l2]; decide, ?_⟩
    intro z3 hz3
    have l3 : z3.length = 8 := by rw [hz3]; simp only [List.length_append, List.length_take, List.length_drop, List.length_cons, List.length_nil, l2]; rfl
    conv => cbv
    refine ⟨by decide, ?_⟩
    refine ⟨by decide, by rw [ofN_ hA]; decide, rfl, ?_⟩
    refine ⟨0, _, ab, 1 + 2, rfl, rfl, by rw [elem_is hA]; show b1.add (2 * 1) = _; rw [hb1, add_add], by show 1 + 2 + 1 ≤ z3.length; rw [l3]; decide, ?_⟩
    intro z4 hz4
    have l4 : z4.length = 8 := by rw [hz4]; simp only [List.length_append, List.length_take, List.length_drop, List.length_cons, List.length_nil, l3]; rfl
    conv => cbv
    refine ⟨by decide, ?_⟩
    refine ⟨by decide, by rw [ofN_ hA]; decide, rfl, ?_⟩
    refine ⟨0, _, ab, 1 + 3, rfl, rfl, by rw [elem_is hA]; show b1.add (3 * 1) = _; rw [hb1, add_add], by show 1 + 3 + 1 ≤ z4.length; rw [l4]; decide, ?_⟩
    intro z5 hz5
    have l5 : z5.length = 8 := by rw [hz5]; simp only [List.length_append, List.length_take, List.length_drop, List.length_cons, List.length_nil, l4]; rfl
    conv => cbv
    refine ⟨[0, 1, 2, 3, 4, 5, 6, 7, 8, 9, 10, 11], [6], mix hP, by kernel_rfl, ?_⟩
    conv => cbv
    refine ⟨0, 5, rfl, rfl, by decide, by decide, ?_⟩
    intro a2 n2 c2 hn2 hc2 ha2
    obtain rfl : n2 = 5 := by omega
    obtain rfl : a2 = some (ab.add 0) := by rw [ha2]; rfl
    conv => cbv
    refine nilP_ptr (f := 153) (T := 69) (m := "Write") rfl rfl (fun ρ => ⟨⟨ρ 0, 0, none⟩, rfl⟩) (by rw [hP]; kernel_rfl) ?_
    conv => cbv
    refine gen_invoke (x := .p 0 0) (T := 69) rfl rfl rfl rfl rfl (methWrite hP) ?_
    have e1 : cnv .u8 (cnv .u32 vv) = ((v / 256 ^ 0 % 256 : Nat) : Int) := by rw [hv, cnv_u32 hA (by omega), byte_ hA]; simp
    have e2 : cnv .u8 (bin .shr .u32 (cnv .u32 vv) 8) = ((v / 256 ^ 1 % 256 : Nat) : Int) := by rw [hv, cnv_u32 hA (by omega)]; have := shn_u32 hA (x := v) (y := 8) (by omega); rw [show (8 : Int) = ((8 : Nat) : Int) from rfl, this, byte_ hA]
    have e3 : cnv .u8 (bin .shr .u32 (cnv .u32 vv) 16) = ((v / 256 ^ 2 % 256 : Nat) : Int) := by rw [hv, cnv_u32 hA (by omega)]; have := shn_u32 hA (x := v) (y := 16) (by omega); rw [show (16 : Int) = ((16 : Nat) : Int) from rfl, this, byte_ hA]
    have e4 : cnv .u8 (bin .shr .u32 (cnv .u32 vv) 24) = ((v / 256 ^ 3 % 256 : Nat) : Int) := by rw [hv, cnv_u32 hA (by omega)]; have := shn_u32 hA (x := v) (y := 24) (by omega); rw [show (24 : Int) = ((24 : Nat) : Int) from rfl, this, byte_ hA]
    have o1 : ∀ v ∈ z5, v.oneCell' = true := by rw [hz5, hz4, hz3, hz2, hz1, hzb, e1, e2, e3, e4]; exact ints_one .u8 [254, _, _, _, _, 0, 0, 0]
    have nt : bnot true = false := by rw [bnot_ hA]; rfl
    have nf : bnot false = true := by rw [bnot_ hA]; rfl
    refine callP_in (fz := []) hP hA Tryd.func153 rfl (by decide) rfl ok153 (by simp [labL, lab]) ?_
    conv => cbv
    refine callP_in (fz := []) hP hA Tryd.func155 rfl (by decide) rfl ok155 (by simp [labL, lab]) ?_
    conv => cbv
    refine gen_cap hA rfl rfl rfl rfl (by rw [hP]; exact Tryd.underlying22) ?_
    conv => cbv
    have o0 := ofN_ hA 0
    have oM : ofN 5 = (5 : Int) := ofN_ hA 5
    have es : bin .sub .i64 (ofN 0) (ofN 0) = 0 := by rw [o0]; exact sub_i64 hA (by omega)
    refine br_f (by rw [es, oM, cmp_leq hA]; rfl) ?_
    conv => cbv
    simp (maxSteps := 10000000) only [nf]
    conv => cbv
    refine callP_in (fz := []) hP hA Tryd.func156 rfl (by decide) rfl ok156 (by simp [labL, lab]) ?_
    conv => cbv
    refine callP_in (fz := []) hP hA Tryd.func157 rfl (by decide) rfl ok157 (by simp [labL, lab]) ?_
    conv => cbv
    refine ⟨[0, 1, 2, 3, 4, 5, 6, 7, 8, 9, 10], [], mix hP, by kernel_rfl, ?_⟩
    conv => cbv
    have o0' : ofN 0 = 0 := o0
    have e0 : bin .sub .i64 0 0 = 0 := sub_i64 hA (by omega)
    have ct : cmp .eql 0 0 = true := by rw [cmp_eql hA]; rfl
    have cn : cmp .neq 0 0 = false := by rw [cmp_neq hA]; rfl
    simp (maxSteps := 10000000) only [o0', e0, ct]
    conv => cbv
    simp (maxSteps := 10000000) only [o0', e0, ct, cn]
    conv => cbv
    refine callP_in (fz := []) hP hA Tryd.func155 rfl (by decide) rfl ok155 (by simp [labL, lab]) ?_
    conv => cbv
    refine gen_cap hA rfl rfl rfl rfl (by rw [hP]; exact Tryd.underlying22) ?_
    conv => cbv
    refine br_f (by rw [es, oM, cmp_leq hA]; rfl) ?_
    conv => cbv
    refine br_t (by rw [oM, cmp_leq hA]; rfl) ?_
    conv => cbv
    simp (maxSteps := 10000000) only [oM]
    conv => cbv
    refine ⟨by decide, by decide, by decide, by decide, ?_⟩
    intro aq nq cq zq hnq hcq hzq
    obtain rfl : nq = 5 := by omega
    obtain rfl : cq = 64 := by omega
    rw [ints_zero] at hzq
    conv => cbv
    refine ⟨0, 5, rfl, rfl, by decide, by decide, ?_⟩
    intro a3 n3 c3 hn3 hc3 ha3
    obtain rfl : n3 = 5 := by omega
    obtain rfl : a3 = some (aq.add 0) := by rw [ha3]; rfl
    conv => cbv
    have qlen : zq.length = 5 := by rw [hzq, ints_len]; rfl
    refine ⟨5, z5.take 5, src0 (r := ⟨some ab, 8, 8, 5, 1, z5⟩) (by simp) rfl (by show 5 ≤ z5.length; rw [l5]; decide) o1, .inr ⟨0, _, aq, 0, aq, rfl, rfl, rfl, (add0 _).symm, by show 0 + min 5 5 * 1 ≤ zq.length; rw [qlen]; decide, ?_⟩⟩
    intro nw zw hnw hzw
    obtain rfl : nw = 5 := by rw [hnw]; decide
    conv => cbv
    refine callP_in (fz := []) hP hA Tryd.func38 rfl (by decide) rfl ok38 (by simp [labL, lab]) ?_
    conv => cbv
    refine ⟨[0, 1, 2, 3, 4, 5, 6, 7, 8, 9], [], mix hP, by kernel_rfl, ?_⟩
    conv => cbv
    refine ⟨0, 5, rfl, rfl, by decide, by decide, ?_⟩
    intro a4 n4 c4 hn4 hc4 ha4
    obtain rfl : n4 = 5 := by omega
    obtain rfl : a4 = some (aq.add 0) := by rw [ha4]; rfl
    conv => cbv
    obtain rfl : c4 = 64 := by omega
    refine fun _ => .inr (.inl ⟨⟨some aq, 5, 64, 5, 1, zw⟩, by simp, rfl, rfl, rfl, ?_, ?_⟩)
    · rw [vi, if_neg h1, if_neg h2, if_pos h3]; rfl
    · rw [vi, if_neg h1, if_neg h2, if_pos h3]
      show zw = _
      rw [hzw, hz5, hz4, hz3, hz2, hz1, hzq, hzb, e1, e2, e3, e4]
      rfl
  refine br_f (by rw [cmp_leq hA]; simp; omega) ?_
  conv => cbv
  refine ⟨by decide, by rw [ofN_ hA]; decide, rfl, ?_⟩
  refine ⟨0, _, ab, 0, rfl, rfl, by rw [elem_is hA]; rfl, by show 0 + 1 ≤ zb.length; rw [hzb]; decide, ?_⟩
  intro z1 hz1
  conv => cbv
  refine ⟨[0, 1, 2, 3, 4, 5, 6, 7, 8, 9, 10, 11], [6], mix hP, by kernel_rfl, ?_⟩
  conv => cbv
  refine ⟨0, 1, rfl, rfl, by decide, by decide, ?_⟩
  intro a2 n2 c2 hn2 hc2 ha2
  obtain rfl : n2 = 1 := by omega
  obtain rfl : a2 = some (ab.add 0) := by rw [ha2]; rfl
  conv => cbv
  refine nilP_ptr (f := 153) (T := 69) (m := "Write") rfl rfl (fun ρ => ⟨⟨ρ 0, 0, none⟩, rfl⟩) (by rw [hP]; kernel_rfl) ?_
  conv => cbv
  refine gen_invoke (x := .p 0 0) (T := 69) rfl rfl rfl rfl rfl (methWrite hP) ?_
  have l1 : z1.length = 8 := by rw [hz1, hzb]; rfl
  have o1 : ∀ v ∈ z1, v.oneCell' = true := by rw [hz1, hzb]; exact ints_one .u8 [255, 0, 0, 0, 0, 0, 0, 0]
  have nt : bnot true = false := by rw [bnot_ hA]; rfl
  have nf : bnot false = true := by rw [bnot_ hA]; rfl
  refine callP_in (fz := []) hP hA Tryd.func153 rfl (by decide) rfl ok153 (by simp [labL, lab]) ?_
  conv => cbv
  refine callP_in (fz := []) hP hA Tryd.func155 rfl (by decide) rfl ok155 (by simp [labL, lab]) ?_
  conv => cbv
  refine gen_cap hA rfl rfl rfl rfl (by rw [hP]; exact Tryd.underlying22) ?_
  conv => cbv
  have o0 := ofN_ hA 0
  have oM : ofN 1 = (1 : Int) := ofN_ hA 1
  have es : bin .sub .i64 (ofN 0) (ofN 0) = 0 := by rw [o0]; exact sub_i64 hA (by omega)
  refine br_f (by rw [es, oM, cmp_leq hA]; rfl) ?_
  conv => cbv
  simp (maxSteps := 10000000) only [nf]
  conv => cbv
  refine callP_in (fz := []) hP hA Tryd.func156 rfl (by decide) rfl ok156 (by simp [labL, lab]) ?_
  conv => cbv
  refine callP_in (fz := []) hP hA Tryd.func157 rfl (by decide) rfl ok157 (by simp [labL, lab]) ?_
  conv => cbv
  refine ⟨[0, 1, 2, 3, 4, 5, 6, 7, 8, 9, 10], [], mix hP, by kernel_rfl, ?_⟩
  conv => cbv
  have o0' : ofN 0 = 0 := o0
  have e0 : bin .sub .i64 0 0 = 0 := sub_i64 hA (by omega)
  have ct : cmp .eql 0 0 = true := by rw [cmp_eql hA]; rfl
  have cn : cmp .neq 0 0 = false := by rw [cmp_neq hA]; rfl
  simp (maxSteps := 10000000) only [o0', e0, ct]
  conv => cbv
  simp (maxSteps := 10000000) only [o0', e0, ct, cn]
  conv => cbv
  refine callP_in (fz := []) hP hA Tryd.func155 rfl (by decide) rfl ok155 (by simp [labL, lab]) ?_
  conv => cbv
  refine gen_cap hA rfl rfl rfl rfl (by rw [hP]; exact Tryd.underlying22) ?_
  conv => cbv
  refine br_f (by rw [es, oM, cmp_leq hA]; rfl) ?_
  conv => cbv
  refine br_t (by rw [oM, cmp_leq hA]; rfl) ?_
  conv => cbv
  simp (maxSteps := 10000000) only [oM]
  conv => cbv
  refine ⟨by decide, by decide, by decide, by decide, ?_⟩
  intro aq nq cq zq hnq hcq hzq
  obtain rfl : nq = 1 := by omega
  obtain rfl : cq = 64 := by omega
  rw [ints_zero] at hzq
  conv => cbv
  refine ⟨0, 1, rfl, rfl, by decide, by decide, ?_⟩
  intro a3 n3 c3 hn3 hc3 ha3
  obtain rfl : n3 = 1 := by omega
  obtain rfl : a3 = some (aq.add 0) := by rw [ha3]; rfl
  conv => cbv
  have qlen : zq.length = 1 := by rw [hzq, ints_len]; rfl
  refine ⟨1, z1.take 1, src0 (r := ⟨some ab, 8, 8, 5, 1, z1⟩) (by simp) rfl (by show 1 ≤ z1.length; rw [l1]; decide) o1, .inr ⟨0, _, aq, 0, aq, rfl, rfl, rfl, (add0 _).symm, by show 0 + min 1 1 * 1 ≤ zq.length; rw [qlen]; decide, ?_⟩⟩
  intro nw zw hnw hzw
  obtain rfl : nw = 1 := by rw [hnw]; decide
  conv => cbv
  simp (maxSteps := 10000000) only [nt]
  conv => cbv
  refine ⟨_, ⟨[], rfl, rfl, fun i v h => nomatch h⟩, ?_⟩
  conv => cbv
  refine callP_in (fz := []) hP hA Tryd.func101 rfl (by decide) rfl ok101 (by simp [labL, lab]) ?_
  conv => cbv
  obtain ⟨vx, hvx⟩ : ∃ v, z1[7]? = some v := ⟨_, List.getElem?_eq_getElem (by rw [l1]; decide)⟩
  refine ⟨by decide, by rw [ofN_ hA]; decide, rfl, ?_⟩
  refine ld_row hA 1 (r := ⟨some ab, 8, 8, 5, 1, z1⟩) rfl rfl rfl (v := vx) (i := 7) hvx ?_
  conv => cbv
  refine ⟨by decide, by rw [ofN_ hA]; decide, rfl, ?_⟩
  refine ⟨1, _, ab, 0, rfl, rfl, by rw [elem_is hA]; rfl, by show 0 + 1 ≤ z1.length; rw [l1]; decide, ?_⟩
  intro z2 hz2
  have l2 : z2.length = 8 := by rw [hz2]; simp only [List.length_append, List.length_take, List.length_drop, List.length_cons, List.length_nil, l1]; rfl
  conv => cbv
  refine ⟨by decide, ?_⟩
  refine ⟨by decide, by rw [ofN_ hA]; decide, rfl, ?_⟩
  refine ⟨1, _, ab, 1, rfl, rfl, by rw [elem_is hA]; rfl, by show 1 + 1 ≤ z2.length; rw [l2]; decide, ?_⟩
  intro z3 hz3
  have l3 : z3.length = 8 := by rw [hz3]; simp only [List.length_append, List.length_take, List.length_drop, List.length_cons, List.length_nil, l2]; rfl
  conv => cbv
  refine ⟨by decide, ?_⟩
  refine ⟨by decide, by rw [ofN_ hA]; decide, rfl, ?_⟩
  refine ⟨1, _, ab, 2, rfl, rfl, by rw [elem_is hA]; rfl, by show 2 + 1 ≤ z3.length; rw [l3]; decide, ?_⟩
  intro z4 hz4
  have l4 : z4.length = 8 := by rw [hz4]; simp only [List.length_append, List.length_take, List.length_drop, List.length_cons, List.length_nil, l3]; rfl
  conv => cbv
  refine ⟨by decide, ?_⟩
  refine ⟨by decide, by rw [ofN_ hA]; decide, rfl, ?_⟩
  refine ⟨1, _, ab, 3, rfl, rfl, by rw [elem_is hA]; rfl, by show 3 + 1 ≤ z4.length; rw [l4]; decide, ?_⟩
  intro z5 hz5
  have l5 : z5.length = 8 := by rw [hz5]; simp only [List.length_append, List.length_take, List.length_drop, List.length_cons, List.length_nil, l4]; rfl
  conv => cbv
  refine ⟨by decide, ?_⟩
  refine ⟨by decide, by rw [ofN_ hA]; decide, rfl, ?_⟩
  refine ⟨1, _, ab, 4, rfl, rfl, by rw [elem_is hA]; rfl, by show 4 + 1 ≤ z5.length; rw [l5]; decide, ?_⟩
  intro z6 hz6
  have l6 : z6.length = 8 := by rw [hz6]; simp only [List.length_append, List.length_take, List.length_drop, List.length_cons, List.length_nil, l5]; rfl
  conv => cbv
  refine ⟨by decide, ?_⟩
  refine ⟨by decide, by rw [ofN_ hA]; decide, rfl, ?_⟩
  refine ⟨1, _, ab, 5, rfl, rfl, by rw [elem_is hA]; rfl, by show 5 + 1 ≤ z6.length; rw [l6]; decide, ?_⟩
  intro z7 hz7
  have l7 : z7.length = 8 := by rw [hz7]; simp only [List.length_append, List.length_take, List.length_drop, List.length_cons, List.length_nil, l6]; rfl
  conv => cbv
  refine ⟨by decide, ?_⟩
  refine ⟨by decide, by rw [ofN_ hA]; decide, rfl, ?_⟩
  refine ⟨1, _, ab, 6, rfl, rfl, by rw [elem_is hA]; rfl, by show 6 + 1 ≤ z7.length; rw [l7]; decide, ?_⟩
  intro z8 hz8
  have l8 : z8.length = 8 := by rw [hz8]; simp only [List.length_append, List.length_take, List.length_drop, List.length_cons, List.length_nil, l7]; rfl
  conv => cbv
  refine ⟨by decide, ?_⟩
  refine ⟨by decide, by rw [ofN_ hA]; decide, rfl, ?_⟩
  refine ⟨1, _, ab, 7, rfl, rfl, by rw [elem_is hA]; rfl, by show 7 + 1 ≤ z8.length; rw [l8]; decide, ?_⟩
  intro z9 hz9
  have l9 : z9.length = 8 := by rw [hz9]; simp only [List.length_append, List.length_take, List.length_drop, List.length_cons, List.length_nil, l8]; rfl
  conv => cbv
  refine gen_invoke (x := .p 0 0) (T := 69) rfl rfl rfl rfl rfl (methWrite hP) ?_
  refine CallP.extend 0 rfl rfl 9 (show 1 ≤ 9 from by decide) (show 9 ≤ 64 from by decide) (fun ys hys => ?_) ⟨_, by rw [hP]; exact Tryd.func153, by decide, rfl⟩
  obtain ⟨zy, hzy⟩ : ∃ zy, zy = zw ++ ys := ⟨_, rfl⟩
  show CallP _ _ _ _ _ _ [⟨some aq, 9, 64, 5, 1, zw ++ ys⟩, ⟨some ab, 8, 8, 5, 1, z9⟩] _
  rw [← hzy]
  refine callP_in (fz := []) hP hA Tryd.func153 rfl (by decide) rfl ok153 (by simp [labL, lab]) ?_
  conv => cbv
  refine callP_in (fz := []) hP hA Tryd.func155 rfl (by decide) rfl ok155 (by simp [labL, lab]) ?_
  conv => cbv
  refine gen_cap hA rfl rfl rfl rfl (by rw [hP]; exact Tryd.underlying22) ?_
  conv => cbv
  have o1' : ofN 1 = 1 := ofN_ hA 1
  have o8' : ofN 8 = 8 := ofN_ hA 8
  have o64' : ofN 64 = 64 := ofN_ hA 64
  have e63 : bin .sub .i64 64 1 = 63 := sub_i64 hA (by omega)
  have e9 : bin .add .i64 1 8 = 9 := add_i64 hA (by omega)
  have ct8 : cmp .leq 8 63 = true := by rw [cmp_leq hA]; rfl
  simp (maxSteps := 10000000) only [o1', o8', o64', e63, ct8]
  conv => cbv
  refine ⟨0, 9, rfl, by rw [e9]; rfl, by decide, by decide, ?_⟩
  intro a6 n6 c6 hn6 hc6 ha6
  obtain rfl : n6 = 9 := by omega
  obtain rfl : c6 = 64 := by omega
  obtain rfl : a6 = some (aq.add 0) := by rw [ha6]; rfl
  conv => cbv
  simp (maxSteps := 10000000) only [nt]
  conv => cbv
  refine ⟨1, 9, rfl, rfl, by decide, by decide, ?_⟩
  intro a7 n7 c7 hn7 hc7 ha7
  obtain rfl : n7 = 8 := by omega
  obtain rfl : c7 = 63 := by omega
  obtain ⟨bq, hbq⟩ : ∃ b, b = aq.add 1 := ⟨_, rfl⟩
  obtain rfl : a7 = some bq := by rw [ha7, hbq]; rfl
  conv => cbv
  have f0 : cnv .u8 vv = ((v / 256 ^ 0 % 256 : Nat) : Int) := by rw [hv, byte_ hA]; simp
  have f1 : cnv .u8 (bin .shr .u64 vv 8) = ((v / 256 ^ 1 % 256 : Nat) : Int) := by rw [hv]; have := shn_u64 hA (x := v) (y := 8) (by omega); rw [show (8 : Int) = ((8 : Nat) : Int) from rfl, this, byte_ hA]
  have f2 : cnv .u8 (bin .shr .u64 vv 16) = ((v / 256 ^ 2 % 256 : Nat) : Int) := by rw [hv]; have := shn_u64 hA (x := v) (y := 16) (by omega); rw [show (16 : Int) = ((16 : Nat) : Int) from rfl, this, byte_ hA]
  have f3 : cnv .u8 (bin .shr .u64 vv 24) = ((v / 256 ^ 3 % 256 : Nat) : Int) := by rw [hv]; have := shn_u64 hA (x := v) (y := 24) (by omega); rw [show (24 : Int) = ((24 : Nat) : Int) from rfl, this, byte_ hA]
  have f4 : cnv .u8 (bin .shr .u64 vv 32) = ((v / 256 ^ 4 % 256 : Nat) : Int) := by rw [hv]; have := shn_u64 hA (x := v) (y := 32) (by omega); rw [show (32 : Int) = ((32 : Nat) : Int) from rfl, this, byte_ hA]
  have f5 : cnv .u8 (bin .shr .u64 vv 40) = ((v / 256 ^ 5 % 256 : Nat) : Int) := by rw [hv]; have := shn_u64 hA (x := v) (y := 40) (by omega); rw [show (40 : Int) = ((40 : Nat) : Int) from rfl, this, byte_ hA]
  have f6 : cnv .u8 (bin .shr .u64 vv 48) = ((v / 256 ^ 6 % 256 : Nat) : Int) := by rw [hv]; have := shn_u64 hA (x := v) (y := 48) (by omega); rw [show (48 : Int) = ((48 : Nat) : Int) from rfl, this, byte_ hA]
  have f7 : cnv .u8 (bin .shr .u64 vv 56) = ((v / 256 ^ 7 % 256 : Nat) : Int) := by rw [hv]; have := shn_u64 hA (x := v) (y := 56) (by omega); rw [show (56 : Int) = ((56 : Nat) : Int) from rfl, this, byte_ hA]
  have e9z : z9 = ints .u8 (le 8 v) := by
    rw [hz9, hz8, hz7, hz6, hz5, hz4, hz3, hz2, hz1, hzb, f0, f1, f2, f3, f4, f5, f6, f7]
    rfl
  have o9 : ∀ v ∈ z9, v.oneCell' = true := by rw [e9z]; exact ints_one _ _
  have ezw : zw = [.int .u8 255] := by rw [hzw, hz1, hzq, hzb]; rfl
  have zyl : zy.length = 9 := by rw [hzy, ezw, List.length_append, hys]; rfl
  refine ⟨8, z9.take 8, src0 (r := ⟨some ab, 8, 8, 5, 1, z9⟩) (by simp) rfl (by show 8 ≤ z9.length; rw [l9]; decide) o9, .inr ⟨0, _, aq, 1, bq, rfl, rfl, rfl, hbq, by show 1 + min 8 8 * 1 ≤ zy.length; rw [zyl]; decide, ?_⟩⟩
  intro nu zu hnu hzu
  obtain rfl : nu = 8 := by rw [hnu]; decide
  conv => cbv
  refine callP_in (fz := []) hP hA Tryd.func38 rfl (by decide) rfl ok38 (by simp [labL, lab]) ?_
  conv => cbv
  refine ⟨[0, 1, 2, 3, 4, 5, 6, 7, 8, 9], [], mix hP, by kernel_rfl, ?_⟩
  conv => cbv
  refine ⟨0, 9, rfl, rfl, by decide, by decide, ?_⟩
  intro a4 n4 c4 hn4 hc4 ha4
  obtain rfl : n4 = 9 := by omega
  obtain rfl : a4 = some (aq.add 0) := by rw [ha4]; rfl
  conv => cbv
  obtain rfl : c4 = 64 := by omega
  refine fun _ => .inr (.inl ⟨⟨some aq, 9, 64, 5, 1, zu⟩, by simp, rfl, rfl, rfl, ?_, ?_⟩)
  · rw [vi, if_neg h1, if_neg h2, if_neg h3]; rfl
  · rw [vi, if_neg h1, if_neg h2, if_neg h3]
    show zu = _
    have hd : List.drop (1 + 8 * 1) zy = [] := List.drop_eq_nil_of_le (by rw [zyl]; decide)
    have ht : List.take 1 zy = [.int .u8 255] := by rw [hzy, ezw]; rfl
    rw [hzu]
    show List.take 1 zy ++ _ ++ List.drop (1 + 8 * 1) zy = _
    rw [hd, ht, e9z]
    rfl
end Go.Proofs.YtnlpjppjhikooaaDoor.Vr
