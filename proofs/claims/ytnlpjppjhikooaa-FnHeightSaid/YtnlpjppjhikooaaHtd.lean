/- The height of a coinbase: what the package reads. -/
import Derived.Test.YtnlpjppjhikooaaHtc
import Derived.Test.YtnlpjppjhikooaaHxo
import Derived.Test.YtnlpjppjhikooaaVval
import Derived.Test.YtnlpjppjhikooaaTyhv
set_option linter.unusedSimpArgs false
set_option linter.unusedVariables false
namespace Go.Proofs.Ytnlpjppjhikooaa.Ht
open Go Go.Se Go.Proofs Go.Proofs.Ytnlpjppjhikooaa.Tyhv Go.Proofs.Ytnlpjppjhikooaa.Tx
open Go.Proofs.Ytnlpjppjhikooaa.Vr (or32)

section
variable {bin : BinOp → IntKind → Int → Int → Int} {cmp : BinOp → Int → Int → Bool} {cnv : IntKind → Int → Int} {neg : IntKind → Int → Int} {com : IntKind → Int → Int} {bnot : Bool → Bool} {beq : Bool → Bool → Bool} {ofN : Nat → Int} {toN : Int → Nat} {at_ : Nat → Nat → Nat → Nat} {sub_ : Nat → Nat → Nat} {scmp : BinOp → ByteArray → ByteArray → Bool} {cat : ByteArray → ByteArray → ByteArray} {sget : ByteArray → Int → Int} {ssz : ByteArray → Nat} {ssub : ByteArray → Nat → Nat → ByteArray} {elem : Option Addr → Int → Nat → Addr} {fld_ : Addr → Nat → Addr}
  (hA : (⟨bin, cmp, cnv, neg, com, bnot, beq, ofN, toN, at_, sub_, scmp, cat, sget, ssz, ssub, elem, fld_⟩ : Ar) = Ar.real)
include hA

theorem u32h {v : Nat} (hv : v < 4294967296) {D0 D1 D2 D3 : Int} (h0 : D0 = (v % 256 : Nat)) (h1 : D1 = (v / 256 % 256 : Nat)) (h2 : D2 = (v / 65536 % 256 : Nat)) (h3 : D3 = (v / 16777216 : Nat)) :
    bin .or .u32 (bin .or .u32 (bin .or .u32 (cnv .u32 D0) (bin .shl .u32 (cnv .u32 D1) 8)) (bin .shl .u32 (cnv .u32 D2) 16)) (bin .shl .u32 (cnv .u32 D3) 24) = (v : Int) := by
  subst h0
  subst h1
  subst h2
  subst h3
  rw [cnv_u32 hA (by omega), cnv_u32 hA (by omega), cnv_u32 hA (by omega), cnv_u32 hA (by omega), or32 hA (s := 8) (si := 8) (by omega) (by omega) (by omega) rfl, or32 hA (s := 16) (si := 16) (by omega) (by omega) (by omega) rfl, or32 hA (s := 24) (si := 24) (by omega) (by omega) (by omega) rfl]
  omega
end



set_option maxRecDepth 100000 in
set_option maxHeartbeats 4000000 in
theorem extractP {P : Program} (hP : P = Try.prog) (R : RO) (u : Value) (g : GTx) (hu : UAt R u g) (gi : GIn) (hg : g.ins = [gi]) (h : Int) (v : Nat) (hv : h = v) (hlt : v < 2147483648) (bs : List Int) (hsb : gi.script = hs v ++ bs) (hbl : bs.length ≤ 80) :
    RetP P 29 [u] R fun _ r => r = .tuple #[.int .i32 h, .nilIface] := by
  subst hP
  obtain ⟨ad, m0, rfl, k1, ad2, ds, hm, k2, k3, a, n, c, a2, n2, cc, rfl, h1, h2, h3, h4⟩ := hu
  simp only [List.cons.injEq, and_true] at hm
  subst hm
  obtain ⟨ver, ins, outs, lock⟩ := g
  simp only at h1 h2 h3 h4 k3 hg ⊢
  subst hg
  have hl3 : n = 1 := h3.len
  refine retP_vc (fz := [509]) Try.func29 rfl (by decide) rfl ok29 ?_
  intro P bin cmp cnv neg com bnot beq ofN toN at_ sub_ scmp cat sget ssz ssub elem fld_ hP hA
  conv => cbv
  have nt : bnot true = false := by rw [bnot_ hA]; rfl
  have nf : bnot false = true := by rw [bnot_ hA]; rfl
  refine callP_in (fz := []) hP hA Try.func43 rfl (by decide) rfl ok43 (by simp [labL, lab]) ?_
  conv => cbv
  refine ld_at hA k1 0 rfl ?_
  conv => cbv
  refine ld_at hA k3 1 rfl ?_
  conv => cbv
  refine ix_at hA h3 0 rfl (by omega) ?_
  refine ld_elem hA h3 0 rfl rfl ?_
  rintro _ - ⟨ad3, ds3, rfl, hd3, hc3, b, m, d, b2, m2, d2, rfl, g0, -, -, -, hsc, ⟨-, hmd⟩, -⟩
  refine ⟨_, rfl, ?_⟩
  conv => cbv
  refine ld_at hA hc3 33 (v := .slice b m d) (by rw [List.getElem?_append_right (by rw [ints_len, g0]; omega), ints_len, g0]; rfl) ?_
  conv => cbv
  rw [hsb] at hsc
  have hml := hsc.len
  rw [List.length_append] at hml
  have hl5 := hs_len hlt
  have om := ofN_ hA m
  refine br_f (by rw [om, cmp_lss hA]; simp; omega) ?_
  conv => cbv
  obtain ⟨D, hD⟩ : ∃ D, D = (hs v ++ bs).getD 0 0 := ⟨_, rfl⟩
  refine ix_u8 hA hsc 0 rfl (by omega) ?_
  refine ld_u8 hA hsc (by omega) (by omega) ?_
  intro b9 hb9 b0 b1
  have hbb : D = b9 := hD.trans hb9.symm
  subst hbb
  conv => cbv
  have ec : cnv .i64 D = D := cnv_i64 hA (by omega)
  by_cases h0 : v = 0
  · have hD0 : D = 0 := by rw [hD, hs, if_pos h0]; rfl
    refine br_t (by rw [ec, cmp_eql hA]; simp; omega) ?_
    conv => cbv
    intro ρ R'' _ _ _
    rw [hv, h0]
    rfl
  by_cases h16 : v ≤ 16
  · have hDv : D = 80 + v := by rw [hD, hs, if_neg h0, if_pos h16]; rfl
    refine br_f (by rw [ec, cmp_eql hA]; simp; omega) ?_
    conv => cbv
    have cg : cmp .geq (cnv .i64 D) 81 = true := by rw [ec, cmp_geq hA]; simp; omega
    simp (maxSteps := 10000000) only [cg]
    conv => cbv
    refine br_t (by rw [ec, cmp_leq hA]; simp; omega) ?_
    conv => cbv
    intro ρ R'' _ _ _
    have e1 : cnv .i32 (bin .sub .i64 (cnv .i64 D) 80) = h := by rw [ec, sub_i64 hA (by omega), cnv_i32 hA (by omega)]; omega
    rw [e1]
    rfl
  have hs4 := sn_b4 h0 hlt
  have hsv : hs v = ((sn v).length : Int) :: sn v := by rw [hs, if_neg h0, if_neg h16]
  have hDl : D = (sn v).length := by rw [hD, hsv]; rfl
  have hll : (hs v).length = (sn v).length + 1 := by rw [hsv, List.length_cons]
  refine br_f (by rw [ec, cmp_eql hA]; simp; omega) ?_
  conv => cbv
  have cg : cmp .geq (cnv .i64 D) 81 = false := by rw [ec, cmp_geq hA]; simp; omega
  simp (maxSteps := 10000000) only [cg]
  conv => cbv
  refine ix_u8 hA hsc 0 rfl (by omega) ?_
  refine ld_u8 hA hsc (by omega) (by omega) ?_
  intro b9 hb9 b0 b1
  have hbb : D = b9 := hD.trans hb9.symm
  subst hbb
  conv => cbv
  refine ⟨1, m, rfl, rfl, by omega, hmd, ?_⟩
  intro a5 n5 c5 hn5 hc5 ha5
  conv => cbv
  refine br_f (by rw [ofN_ hA, ec, cmp_lss hA]; simp; omega) ?_
  conv => cbv
  refine ⟨_, rfl, by decide, ?_⟩
  intro ao no zo hno hzo
  obtain rfl : no = 4 := hno
  conv => cbv
  refine ⟨[0, 1, 2, 3, 4, 5], [5], mix hP, by kernel_rfl, ?_⟩
  conv => cbv
  refine ⟨1, (sn v).length + 1, rfl, by show _ = bin .add .i64 (cnv .i64 D) 1; rw [ec, add_i64 hA (by omega), hDl]; rfl, by omega, by omega, ?_⟩
  intro a6 n6 c6 hn6 hc6 ha6
  have h6 := hsc.part' (l := 1) (m := (sn v).length + 1) (by omega) (by omega) hn6 hmd ha6
  have e6 : ((hs v ++ bs).drop 1).take ((sn v).length + 1 - 1) = sn v := by rw [hsv, Nat.add_sub_cancel]; show ((sn v) ++ bs).take _ = _; rw [List.take_left]
  rw [e6] at h6
  conv => cbv
  have hn6' : n6 = (sn v).length := by omega
  refine ⟨n6, ints .u8 (sn v), h6.src, .inr ⟨0, _, ao, 0, ao, rfl, rfl, rfl, rfl, by show 0 + min n6 4 * 1 ≤ zo.length; rw [hzo]; show 0 + min n6 4 * 1 ≤ 4; omega, ?_⟩⟩
  intro nw zw hnw hzw
  have hzz : zw = ints .u8 (b4 v) := by
    rw [hzw]
    show List.take 0 zo ++ List.take (nw * 1) (ints .u8 (sn v)) ++ List.drop (0 + nw * 1) zo = _
    have e1 : nw = (sn v).length := by omega
    have t1 : List.take (sn v).length (ints .u8 (sn v)) = ints .u8 (sn v) := List.take_of_length_le (by rw [ints_len]; omega)
    have t2 : ints .u8 (b4 v) = ints .u8 (sn v) ++ List.drop (sn v).length zo := by rw [← hs4.2.2, ← ints_app, hzo]; congr 1; show _ = List.drop _ (ints .u8 [0, 0, 0, 0]); simp only [ints, List.map_drop]
    rw [e1, Nat.mul_one, Nat.zero_add, t1, t2]
    rfl
  conv => cbv
  refine ⟨[0, 1, 2, 3, 4], [], mix hP, by kernel_rfl, ?_⟩
  conv => cbv
  refine ⟨_, ⟨[], rfl, rfl, fun i v h => nomatch h⟩, ?_⟩
  conv => cbv
  obtain ⟨D0, hD0⟩ : ∃ x : Int, x = (v % 256 : Nat) := ⟨_, rfl⟩
  obtain ⟨D1, hD1⟩ : ∃ x : Int, x = (v / 256 % 256 : Nat) := ⟨_, rfl⟩
  obtain ⟨D2, hD2⟩ : ∃ x : Int, x = (v / 65536 % 256 : Nat) := ⟨_, rfl⟩
  obtain ⟨D3, hD3⟩ : ∃ x : Int, x = (v / 16777216 : Nat) := ⟨_, rfl⟩
  have hbb4 : b4 v = [D0, D1, D2, D3] := by rw [b4, hD0, hD1, hD2, hD3]
  rw [hbb4] at hzz
  refine callP_in (fz := []) hP hA Try.func45 rfl (by decide) rfl ok45 (by simp [labL, lab]) ?_
  conv => cbv
  refine ⟨by decide, by rw [ofN_ hA]; decide, rfl, ?_⟩
  refine ld_row hA 0 (r := ⟨some ao, 4, 4, 109, 1, zw⟩) rfl rfl rfl (v := .int .u8 D3) (i := 3) (by show zw[3]? = _; rw [hzz]; rfl) ?_
  conv => cbv
  refine ⟨[0, 1, 2, 3, 4, 5, 6, 7, 8, 9, 10, 11, 12, 13, 14, 15, 16, 17, 18, 19, 20, 21, 22], [], mix hP, by kernel_rfl, ?_⟩
  conv => cbv
  refine ⟨by decide, by rw [ofN_ hA]; decide, rfl, ?_⟩
  refine ld_row hA 0 (r := ⟨some ao, 4, 4, 109, 1, zw⟩) rfl rfl rfl (v := .int .u8 D0) (i := 0) (by show zw[0]? = _; rw [hzz]; rfl) ?_
  conv => cbv
  refine ⟨by decide, by rw [ofN_ hA]; decide, rfl, ?_⟩
  refine ld_row hA 0 (r := ⟨some ao, 4, 4, 109, 1, zw⟩) rfl rfl rfl (v := .int .u8 D1) (i := 1) (by show zw[1]? = _; rw [hzz]; rfl) ?_
  conv => cbv
  refine ⟨by decide, ?_⟩
  refine ⟨by decide, by rw [ofN_ hA]; decide, rfl, ?_⟩
  refine ld_row hA 0 (r := ⟨some ao, 4, 4, 109, 1, zw⟩) rfl rfl rfl (v := .int .u8 D2) (i := 2) (by show zw[2]? = _; rw [hzz]; rfl) ?_
  conv => cbv
  refine ⟨by decide, ?_⟩
  refine ⟨by decide, by rw [ofN_ hA]; decide, rfl, ?_⟩
  refine ld_row hA 0 (r := ⟨some ao, 4, 4, 109, 1, zw⟩) rfl rfl rfl (v := .int .u8 D3) (i := 3) (by show zw[3]? = _; rw [hzz]; rfl) ?_
  conv => cbv
  refine ⟨by decide, ?_⟩
  have eu := u32h hA (by omega : v < 4294967296) hD0 hD1 hD2 hD3
  have ei : cnv .i32 (bin .or .u32 (bin .or .u32 (bin .or .u32 (cnv .u32 D0) (bin .shl .u32 (cnv .u32 D1) 8)) (bin .shl .u32 (cnv .u32 D2) 16)) (bin .shl .u32 (cnv .u32 D3) 24)) = h := by rw [eu, hv]; exact cnv_i32 hA (by omega)
  conv => cbv
  simp (maxSteps := 10000000) only [ei]
  refine ⟨⟨trivial, .refl _⟩, ?_⟩
  refine (compareP hP R h v hv hlt b m d bs hsc (by omega) hmd).callQ rfl ?_
  rintro _ rfl
  conv => cbv
  simp (maxSteps := 10000000) only [nt]
  conv => cbv
  intro ρ R'' _ _ _
  rfl

set_option maxRecDepth 100000 in
/-- What is told of a coinbase's height. -/
theorem heightP {P : Program} (hP : P = Try.prog) (R : RO) (cs : List Value) (g : GTx) (ht : TxAt R cs g) (hz : tsz g ≤ 1000000) (gi : GIn) (hg : g.ins = [gi]) (h : Int) (v : Nat) (hv : h = v) (hlt : v < 2147483648) (bs : List Int) (hsb : gi.script = hs v ++ bs) (hbl : bs.length ≤ 80) :
    RetP P 16 [.agg cs.toArray] R fun _ r => r = .tuple #[.int .i32 h, .int .i64 0] := by
  subst hP
  have hh := ht
  obtain ⟨a, n, c, a2, n2, cc, rfl, -⟩ := ht
  refine retP_vc (fz := []) Try.func16 rfl (by decide) rfl ok16 ?_
  intro P bin cmp cnv neg com bnot beq ofN toN at_ sub_ scmp cat sget ssz ssub elem fld_ hP hA
  conv => cbv
  refine (utilTx hP R _ g hh hz).callP rfl ?_
  rintro R1 u hR1 hu
  conv => cbv
  refine (extractP hP R1 u g hu gi hg h v hv hlt bs hsb hbl).callQ rfl ?_
  rintro _ rfl
  conv => cbv
  refine callP_in (fz := []) hP hA Try.func31 rfl (by decide) rfl ok31 (by simp [labL, lab]) ?_
  conv => cbv
  intro ρ R'' _ _ _
  rfl

set_option maxRecDepth 100000 in
theorem faultP {P : Program} (hP : P = Try.prog) (R : RO) (cs : List Value) (g : GTx) (ht : TxAt R cs g) (hz : tsz g ≤ 1000000) (gi : GIn) (hg : g.ins = [gi]) (h q : Int) (v : Nat) (hv : h = v) (hlt : v < 2147483648) (bs : List Int) (hsb : gi.script = hs v ++ bs) (hbl : bs.length ≤ 80) :
    RetP P 17 [.agg cs.toArray, .int .i32 q] R fun _ r => ∃ k, r = .int .i64 k ∧ (k = 0 ↔ q = h) := by
  subst hP
  have hh := ht
  obtain ⟨a, n, c, a2, n2, cc, rfl, -⟩ := ht
  refine retP_vc (fz := []) Try.func17 rfl (by decide) rfl ok17 ?_
  intro P bin cmp cnv neg com bnot beq ofN toN at_ sub_ scmp cat sget ssz ssub elem fld_ hP hA
  conv => cbv
  have nt : bnot true = false := by rw [bnot_ hA]; rfl
  refine (utilTx hP R _ g hh hz).callP rfl ?_
  rintro R1 u hR1 hu
  conv => cbv
  refine callP_in (fz := []) hP hA Try.func32 rfl (by decide) rfl ok32 (by simp [labL, lab]) ?_
  conv => cbv
  refine (extractP hP R1 u g hu gi hg h v hv hlt bs hsb hbl).callQ rfl ?_
  rintro _ rfl
  conv => cbv
  simp (maxSteps := 10000000) only [nt]
  conv => cbv
  by_cases hq : h = q
  · refine br_f (by rw [cmp_neq hA]; simp; omega) ?_
    conv => cbv
    refine callP_in (fz := []) hP hA Try.func31 rfl (by decide) rfl ok31 (by simp [labL, lab]) ?_
    conv => cbv
    intro ρ R'' _ _ _
    exact ⟨0, rfl, fun _ => hq.symm, fun _ => rfl⟩
  refine br_t (by rw [cmp_neq hA]; simp; omega) ?_
  conv => cbv
  refine callP_in (fz := []) hP hA Try.func44 rfl (by decide) rfl ok44 (by simp [labL, lab]) ?_
  conv => cbv
  refine callP_in (fz := []) hP hA Try.func31 rfl (by decide) rfl ok31 (by simp [labL, lab]) ?_
  conv => cbv
  intro ρ R'' _ _ _
  exact ⟨34, rfl, fun e => absurd e (by decide), fun e => absurd e.symm hq⟩
end Go.Proofs.Ytnlpjppjhikooaa.Ht
