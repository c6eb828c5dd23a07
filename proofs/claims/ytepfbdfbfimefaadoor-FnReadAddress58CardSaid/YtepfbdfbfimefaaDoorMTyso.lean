/- SHA-256: the hash of what a digest has taken. -/
/- The types that some functions name, as the evaluator wants them. Printed by a program of my own (seatgen.py). -/
import Derived.Test.YtepfbdfbfimefaaDoorMTysh
import Derived.Test.YtepfbdfbfimefaaDoorSl
import Derived.Test.YtepfbdfbfimefaaDoorProg
import Derived.KernelRfl
section
set_option linter.unusedSimpArgs false
set_option linter.unusedVariables false
namespace Go.Proofs.YtepfbdfbfimefaaDoor.Sha
open Go Go.Se Go.Proofs Go.Proofs.YtepfbdfbfimefaaDoor.Tysh

theorem pad_take (t : Nat) (h1 : 1 ≤ t) (h2 : t ≤ 72) : (128 :: List.replicate 71 (0 : Int)).take t = 128 :: List.replicate (t - 1) 0 := by
  obtain ⟨u, rfl⟩ : ∃ u, t = u + 1 := ⟨t - 1, by omega⟩
  rw [List.take_succ_cons, List.take_replicate, Nat.add_sub_cancel, Nat.min_eq_left (by omega)]

theorem DgT.nx0 {K T : List Int} {n : Nat} {m : Int} {zs : List Value} (h : DgT K T n m zs) (h0 : n % 64 = 0) : ∃ s buf, zs = dz s buf 0 m ∧ buf.length = 64 ∧ s = cmpr K (n / 64) T S0 := by
  obtain ⟨s, buf, q, r, h1, h2, h3, h4, h5, h6, h7⟩ := h
  obtain rfl : r = 0 := by omega
  obtain rfl : q = n / 64 := by omega
  exact ⟨s, buf, h1, h2, h6⟩


theorem ld_k2 {R : RO} {r0 : Row} {rs : List Row} {D ad : Addr} {zs : List Value} {j : Nat} {v : Value} (h : zs[j]? = some v) (ha : ad = D.add j) {K : Value → Prop} (hk : K v) :
    LoadP R (r0 :: ⟨some D, 75, 75, 92, 1, zs⟩ :: rs) ad false 1 K :=
  ld_k (.inr ⟨_, List.mem_cons_of_mem _ (List.mem_cons_self ..), D, j, rfl, ha, h⟩) hk

set_option maxRecDepth 100000 in
set_option maxHeartbeats 8000000 in
theorem checkC {P : Program} (hP : P = Tryd.prog) (R : RO) (K : List Int) (hK : RI R .u32 (some ⟨3, 0, none⟩) 64 K) (D : Addr) (zs : List Value) (bs : List Int) (hd : Dg K bs zs) (hN : bs.length ≤ 1099511627000)
    {K' : RO → List (Nat × HB) → Nat → List Row → SV → Prop}
    (hg : ∀ (x y : Row) (zs' : List Value) (r : Value) hp nx (s' : S8) (buf' : List Int) (r' m' : Int), buf'.length = 64 → zs' = dz s' buf' r' m' → r = .agg (ints .u8 (sha K bs)).toArray → K' R hp nx [x, ⟨some D, 75, 75, 92, 1, zs'⟩, y] (.v r)) :
    CallP P 83 [.v (.pointer (some D))] R [] 0 [⟨some D, 75, 75, 92, 1, zs⟩] K' := by
  subst hP
  refine callP_of_vc (fz := [504, 507]) Tryd.func83 rfl (by decide) (Nat.le_of_ble_eq_true rfl) ok83 (by simp [labL, lab]) ?_
  rintro P ⟨bin, cmp, cnv, neg, com, bnot, beq, ofN, toN, at_, sub_, scmp, cat, sget, ssz, ssub, elem, fld_⟩ hP hA
  have hd0 := hd
  obtain ⟨s, buf, q, r, hz, hb, hqr, hr, hqT, hs, hbuf⟩ := hd0
  obtain ⟨ri, hri⟩ : ∃ ri : Int, ri = r := ⟨_, rfl⟩
  obtain ⟨mi, hmi⟩ : ∃ mi : Int, mi = ((bs.length : Nat) : Int) := ⟨_, rfl⟩
  rw [← hri, ← hmi] at hz
  have hz : zs = dz s buf ri mi := hz
  have hpp := padN_pos bs.length
  conv => cbv
  refine ld_dg (fld__is hA) 73 (v := .int .u64 mi) (by rw [hz]; exact dz_73 s buf hb ri mi) ?_
  conv => cbv
  refine ⟨_, rfl, by decide, ?_⟩
  intro A n72 z0 hn72 hz0
  obtain rfl : n72 = 72 := hn72
  have hz0 : z0 = ints .u8 (List.replicate 72 0) := by rw [hz0]; rfl
  conv => cbv
  refine ⟨by decide, by rw [ofN_ hA]; decide, rfl, ?_⟩
  refine ⟨0, _, A, 0, rfl, rfl, elem_at (elem_is hA) A 0 0 rfl, by show 0 + 1 ≤ z0.length; rw [hz0]; decide, ?_⟩
  intro z1 hz1
  have hz1 : z1 = ints .u8 (128 :: List.replicate 71 0) := by rw [hz1, hz0]; rfl
  conv => cbv
  refine ⟨by decide, ?_⟩
  have em : bin .rem .u64 mi 64 = ((bs.length % 64 : Nat) : Int) := by rw [hmi, rem_u64 hA (by omega)]; omega
  by_cases h56 : bs.length % 64 < 56
  · refine br_t (by rw [em, cmp_lss hA]; simp; omega) ?_
    conv => cbv
    refine ⟨by decide, ?_⟩
    obtain ⟨ti, hti⟩ : ∃ ti, ti = bin .sub .u64 56 (bin .rem .u64 mi 64) := ⟨_, rfl⟩
    simp (maxSteps := 10000000) only [← hti]
    obtain ⟨t, htt⟩ : ∃ t, t = padN bs.length := ⟨_, rfl⟩
    have hti : ti = (t : Nat) := by rw [hti, em, sub_u64 hA (by omega), htt, padN, if_pos h56]; omega
    rw [← htt] at hpp
    conv => cbv
    refine ⟨by decide, ?_⟩
    have el8 : bin .shl .u64 mi 3 = Ar.real.bin .shl .u64 (bs.length : Nat) 3 := by rw [bin_is hA, hmi]
    obtain ⟨l8, hl8⟩ : ∃ l8, l8 = bin .shl .u64 mi 3 := ⟨_, rfl⟩
    simp (maxSteps := 10000000) only [← hl8]
    rw [el8] at hl8
    have e8 : bin .add .u64 ti 8 = ((t + 8 : Nat) : Int) := by rw [hti, add_u64 hA (by omega)]; rfl
    have e0 : bin .add .u64 ti 0 = ((t : Nat) : Int) := by rw [hti, add_u64 hA (by omega)]; omega
    conv => cbv
    refine raw_slice_arr (n := 72) 0 (t + 8) rfl rfl (.inl ⟨rfl, rfl⟩) (.inr ⟨_, _, _, rfl, rfl, e8⟩) (by omega) (by omega) (by rw [hP]; exact ty114) rfl (by rw [hP]; exact ty5) rfl ?_
    intro pa pn pc hpn hpc hpa
    obtain rfl : A = pa := by rw [hpa (by omega)]; simp [Addr.add]
    conv => cbv
    refine ⟨t, pn, e0.symm, rfl, by omega, by omega, ?_⟩
    intro a1 n1 c1 hn1 hc1 ha1
    obtain rfl : a1 = some (A.add t) := by rw [ha1, if_neg (by omega), Nat.mul_one]; rfl
    obtain ⟨B, hB⟩ : ∃ B, B = A.add t := ⟨_, rfl⟩
    simp (maxSteps := 10000000) only [← hB]
    conv => cbv
    refine put8F hP R _ A B t 72 72 114 n1 c1 z1 l8 hB (by omega) (by rw [hz1, ints_len, List.length_cons, List.length_replicate]; omega) ?_
    intro z2 hz2
    have hz2 : z2 = ints .u8 (pad bs.length ++ (128 :: List.replicate 71 (0 : Int)).drop (t + 8)) := by
      rw [hz2, hz1, pad, ← htt, ← hl8, ← pad_take t (by omega) (by omega)]
      simp only [ints, List.map_append, List.map_take, List.map_drop]
    conv => cbv
    refine CallP.perm (rs := [⟨some D, 75, 75, 92, 1, zs⟩, ⟨some A, 72, 72, 114, 1, z2⟩]) (.swap ..) ?_
    refine writeF hP R _ K hK D zs bs (pad bs.length) hd (some A) A pn pc (by omega) (by rw [pad_len]; omega) (by omega) (fun _ => rfl) (fun j hj => .inr ⟨_, List.mem_cons_self .., A, j, rfl, rfl, ?_⟩) ?_
    · show z2[j]? = _
      have hpl := pad_len bs.length
      rw [hz2, ints_get (by rw [List.length_append]; omega), List.getD_eq_getElem?_getD, List.getElem?_append_left (by omega), ← List.getD_eq_getElem?_getD]
    intro zs' hd'
    have hd'' : DgT K (bs ++ pad bs.length) (bs ++ pad bs.length).length (bs ++ pad bs.length).length zs' := hd'
    have hpl := pad_len bs.length
    rw [List.length_append, hpl] at hd''
    obtain ⟨sF, bF, hzF, hbF, hsF⟩ := hd''.nx0 (by omega)
    obtain ⟨mF, hmF⟩ : ∃ mF : Int, mF = ((bs.length + (padN bs.length + 8) : Nat) : Int) := ⟨_, rfl⟩
    rw [← hmF] at hzF
    conv => cbv
    refine ld_dg (fld__is hA) 72 (v := .int .i64 0) (by rw [hzF]; exact dz_72 sF bF hbF 0 mF) ?_
    conv => cbv
    refine br_f (by rw [cmp_neq hA]; rfl) ?_
    conv => cbv
    refine ⟨_, rfl, by decide, ?_⟩
    intro G n32 g0 hn32 hg0
    obtain rfl : n32 = 32 := hn32
    have hg0 : g0 = ints .u8 (List.replicate 32 0) := by rw [hg0]; rfl
    have hgl0 : g0.length = 32 := by rw [hg0]; rfl
    conv => cbv
    refine ⟨[0, 1, 2, 3, 4, 5, 6], [6], mix hP, by decide +kernel, ?_⟩
    conv => cbv
    refine raw_slice_arr (n := 32) 0 32 rfl rfl (.inr ⟨_, _, _, rfl, rfl, rfl⟩) (.inl ⟨rfl, rfl⟩) (by decide) (by decide) (by rw [hP]; exact ty39) rfl (by rw [hP]; exact ty5) rfl ?_
    intro b0 bn0 bc0 hbn0 hbc0 hb0
    have hb0 : b0 = G.add 0 := hb0 (by decide)
    conv => cbv
    refine ⟨by decide, by rw [ofN_ hA]; decide, rfl, ?_⟩
    refine ld_k2 (j := 0) (v := .int .u32 sF.a) (by rw [hzF]; rfl) ((elem_at (elem_is hA) _ 0 0 rfl).trans (by rw [fld__is hA]; show (D.add 0).add 0 = D.add 0; rw [add_add', Nat.zero_add])) ?_
    obtain ⟨h0, hh0⟩ : ∃ h, h = sF.a := ⟨_, rfl⟩
    rw [← hh0]
    conv => cbv
    refine put4F hP R _ G b0 0 32 32 39 bn0 bc0 g0 h0 hb0 (by omega) (by rw [hgl0]; decide) ?_
    intro g1 hg1
    have hgl1 : g1.length = 32 := by rw [hg1, List.length_append, List.length_append, List.length_take, List.length_drop, hgl0]; rfl
    conv => cbv
    refine ⟨[0, 1, 2, 3, 4, 5, 6], [6], mix hP, by decide +kernel, ?_⟩
    conv => cbv
    refine raw_slice_arr (n := 32) 4 32 rfl rfl (.inr ⟨_, _, _, rfl, rfl, rfl⟩) (.inl ⟨rfl, rfl⟩) (by decide) (by decide) (by rw [hP]; exact ty39) rfl (by rw [hP]; exact ty5) rfl ?_
    intro b1 bn1 bc1 hbn1 hbc1 hb1
    have hb1 : b1 = G.add 4 := hb1 (by decide)
    conv => cbv
    refine ⟨by decide, by rw [ofN_ hA]; decide, rfl, ?_⟩
    refine ld_k2 (j := 1) (v := .int .u32 sF.b) (by rw [hzF]; rfl) ((elem_at (elem_is hA) _ 1 1 rfl).trans (by rw [fld__is hA]; show (D.add 0).add 1 = D.add 1; rw [add_add', Nat.zero_add])) ?_
    obtain ⟨h1, hh1⟩ : ∃ h, h = sF.b := ⟨_, rfl⟩
    rw [← hh1]
    conv => cbv
    refine put4F hP R _ G b1 4 32 32 39 bn1 bc1 g1 h1 hb1 (by omega) (by rw [hgl1]; decide) ?_
    intro g2 hg2
    have hgl2 : g2.length = 32 := by rw [hg2, List.length_append, List.length_append, List.length_take, List.length_drop, hgl1]; rfl
    conv => cbv
    refine ⟨[0, 1, 2, 3, 4, 5, 6], [6], mix hP, by decide +kernel, ?_⟩
    conv => cbv
    refine raw_slice_arr (n := 32) 8 32 rfl rfl (.inr ⟨_, _, _, rfl, rfl, rfl⟩) (.inl ⟨rfl, rfl⟩) (by decide) (by decide) (by rw [hP]; exact ty39) rfl (by rw [hP]; exact ty5) rfl ?_
    intro b2 bn2 bc2 hbn2 hbc2 hb2
    have hb2 : b2 = G.add 8 := hb2 (by decide)
    conv => cbv
    refine ⟨by decide, by rw [ofN_ hA]; decide, rfl, ?_⟩
    refine ld_k2 (j := 2) (v := .int .u32 sF.c) (by rw [hzF]; rfl) ((elem_at (elem_is hA) _ 2 2 rfl).trans (by rw [fld__is hA]; show (D.add 0).add 2 = D.add 2; rw [add_add', Nat.zero_add])) ?_
    obtain ⟨h2, hh2⟩ : ∃ h, h = sF.c := ⟨_, rfl⟩
    rw [← hh2]
    conv => cbv
    refine put4F hP R _ G b2 8 32 32 39 bn2 bc2 g2 h2 hb2 (by omega) (by rw [hgl2]; decide) ?_
    intro g3 hg3
    have hgl3 : g3.length = 32 := by rw [hg3, List.length_append, List.length_append, List.length_take, List.length_drop, hgl2]; rfl
    conv => cbv
    refine ⟨[0, 1, 2, 3, 4, 5, 6], [6], mix hP, by decide +kernel, ?_⟩
    conv => cbv
    refine raw_slice_arr (n := 32) 12 32 rfl rfl (.inr ⟨_, _, _, rfl, rfl, rfl⟩) (.inl ⟨rfl, rfl⟩) (by decide) (by decide) (by rw [hP]; exact ty39) rfl (by rw [hP]; exact ty5) rfl ?_
    intro b3 bn3 bc3 hbn3 hbc3 hb3
    have hb3 : b3 = G.add 12 := hb3 (by decide)
    conv => cbv
    refine ⟨by decide, by rw [ofN_ hA]; decide, rfl, ?_⟩
    refine ld_k2 (j := 3) (v := .int .u32 sF.d) (by rw [hzF]; rfl) ((elem_at (elem_is hA) _ 3 3 rfl).trans (by rw [fld__is hA]; show (D.add 0).add 3 = D.add 3; rw [add_add', Nat.zero_add])) ?_
    obtain ⟨h3, hh3⟩ : ∃ h, h = sF.d := ⟨_, rfl⟩
    rw [← hh3]
    conv => cbv
    refine put4F hP R _ G b3 12 32 32 39 bn3 bc3 g3 h3 hb3 (by omega) (by rw [hgl3]; decide) ?_
    intro g4 hg4
    have hgl4 : g4.length = 32 := by rw [hg4, List.length_append, List.length_append, List.length_take, List.length_drop, hgl3]; rfl
    conv => cbv
    refine ⟨[0, 1, 2, 3, 4, 5, 6], [6], mix hP, by decide +kernel, ?_⟩
    conv => cbv
    refine raw_slice_arr (n := 32) 16 32 rfl rfl (.inr ⟨_, _, _, rfl, rfl, rfl⟩) (.inl ⟨rfl, rfl⟩) (by decide) (by decide) (by rw [hP]; exact ty39) rfl (by rw [hP]; exact ty5) rfl ?_
    intro b4 bn4 bc4 hbn4 hbc4 hb4
    have hb4 : b4 = G.add 16 := hb4 (by decide)
    conv => cbv
    refine ⟨by decide, by rw [ofN_ hA]; decide, rfl, ?_⟩
    refine ld_k2 (j := 4) (v := .int .u32 sF.e) (by rw [hzF]; rfl) ((elem_at (elem_is hA) _ 4 4 rfl).trans (by rw [fld__is hA]; show (D.add 0).add 4 = D.add 4; rw [add_add', Nat.zero_add])) ?_
    obtain ⟨h4, hh4⟩ : ∃ h, h = sF.e := ⟨_, rfl⟩
    rw [← hh4]
    conv => cbv
    refine put4F hP R _ G b4 16 32 32 39 bn4 bc4 g4 h4 hb4 (by omega) (by rw [hgl4]; decide) ?_
    intro g5 hg5
    have hgl5 : g5.length = 32 := by rw [hg5, List.length_append, List.length_append, List.length_take, List.length_drop, hgl4]; rfl
    conv => cbv
    refine ⟨[0, 1, 2, 3, 4, 5, 6], [6], mix hP, by decide +kernel, ?_⟩
    conv => cbv
    refine raw_slice_arr (n := 32) 20 32 rfl rfl (.inr ⟨_, _, _, rfl, rfl, rfl⟩) (.inl ⟨rfl, rfl⟩) (by decide) (by decide) (by rw [hP]; exact ty39) rfl (by rw [hP]; exact ty5) rfl ?_
    intro b5 bn5 bc5 hbn5 hbc5 hb5
    have hb5 : b5 = G.add 20 := hb5 (by decide)
    conv => cbv
    refine ⟨by decide, by rw [ofN_ hA]; decide, rfl, ?_⟩
    refine ld_k2 (j := 5) (v := .int .u32 sF.f) (by rw [hzF]; rfl) ((elem_at (elem_is hA) _ 5 5 rfl).trans (by rw [fld__is hA]; show (D.add 0).add 5 = D.add 5; rw [add_add', Nat.zero_add])) ?_
    obtain ⟨h5, hh5⟩ : ∃ h, h = sF.f := ⟨_, rfl⟩
    rw [← hh5]
    conv => cbv
    refine put4F hP R _ G b5 20 32 32 39 bn5 bc5 g5 h5 hb5 (by omega) (by rw [hgl5]; decide) ?_
    intro g6 hg6
    have hgl6 : g6.length = 32 := by rw [hg6, List.length_append, List.length_append, List.length_take, List.length_drop, hgl5]; rfl
    conv => cbv
    refine ⟨[0, 1, 2, 3, 4, 5, 6], [6], mix hP, by decide +kernel, ?_⟩
    conv => cbv
    refine raw_slice_arr (n := 32) 24 32 rfl rfl (.inr ⟨_, _, _, rfl, rfl, rfl⟩) (.inl ⟨rfl, rfl⟩) (by decide) (by decide) (by rw [hP]; exact ty39) rfl (by rw [hP]; exact ty5) rfl ?_
    intro b6 bn6 bc6 hbn6 hbc6 hb6
    have hb6 : b6 = G.add 24 := hb6 (by decide)
    conv => cbv
    refine ⟨by decide, by rw [ofN_ hA]; decide, rfl, ?_⟩
    refine ld_k2 (j := 6) (v := .int .u32 sF.g) (by rw [hzF]; rfl) ((elem_at (elem_is hA) _ 6 6 rfl).trans (by rw [fld__is hA]; show (D.add 0).add 6 = D.add 6; rw [add_add', Nat.zero_add])) ?_
    obtain ⟨h6, hh6⟩ : ∃ h, h = sF.g := ⟨_, rfl⟩
    rw [← hh6]
    conv => cbv
    refine put4F hP R _ G b6 24 32 32 39 bn6 bc6 g6 h6 hb6 (by omega) (by rw [hgl6]; decide) ?_
    intro g7 hg7
    have hgl7 : g7.length = 32 := by rw [hg7, List.length_append, List.length_append, List.length_take, List.length_drop, hgl6]; rfl
    conv => cbv
    conv => cbv
    refine ld_k2 (j := 74) (v := .bool false) (by rw [hzF]; exact dz_74 sF bF hbF 0 mF) (fld_at (fld__is hA) D 74) ?_
    conv => cbv
    refine br_t (by rw [bnot_ hA]; rfl) ?_
    conv => cbv
    refine ⟨[0, 1, 2, 3, 4, 5, 6], [6], mix hP, by decide +kernel, ?_⟩
    conv => cbv
    refine raw_slice_arr (n := 32) 28 32 rfl rfl (.inr ⟨_, _, _, rfl, rfl, rfl⟩) (.inl ⟨rfl, rfl⟩) (by decide) (by decide) (by rw [hP]; exact ty39) rfl (by rw [hP]; exact ty5) rfl ?_
    intro b7 bn7 bc7 hbn7 hbc7 hb7
    have hb7 : b7 = G.add 28 := hb7 (by decide)
    conv => cbv
    refine ⟨by decide, by rw [ofN_ hA]; decide, rfl, ?_⟩
    refine ld_k2 (j := 7) (v := .int .u32 sF.h) (by rw [hzF]; rfl) ((elem_at (elem_is hA) _ 7 7 rfl).trans (by rw [fld__is hA]; show (D.add 0).add 7 = D.add 7; rw [add_add', Nat.zero_add])) ?_
    obtain ⟨h7, hh7⟩ : ∃ h, h = sF.h := ⟨_, rfl⟩
    rw [← hh7]
    conv => cbv
    refine put4F hP R _ G b7 28 32 32 39 bn7 bc7 g7 h7 hb7 (by omega) (by rw [hgl7]; decide) ?_
    intro g8 hg8
    have hgl8 : g8.length = 32 := by rw [hg8, List.length_append, List.length_append, List.length_take, List.length_drop, hgl7]; rfl
    conv => cbv
    have hgF : g8 = ints .u8 (sha K bs) := by
      have hS : shaS K bs = sF := by rw [shaS, hsF, Nat.add_assoc]
      rw [hg8, hh7, hg7, hh6, hg6, hh5, hg5, hh4, hg4, hh3, hg3, hh2, hg2, hh1, hg1, hh0, hg0, sha, hS]
      rfl
    obtain ⟨v0, v1, v2, v3, v4, v5, v6, v7, v8, v9, v10, v11, v12, v13, v14, v15, v16, v17, v18, v19, v20, v21, v22, v23, v24, v25, v26, v27, v28, v29, v30, v31, hsl⟩ := list32 (sha K bs) (sha_len K bs)
    rw [hsl] at hgF
    subst hgF
    conv => cbv
    refine ⟨_, ⟨ints .u8 [v0, v1, v2, v3, v4, v5, v6, v7, v8, v9, v10, v11, v12, v13, v14, v15, v16, v17, v18, v19, v20, v21, v22, v23, v24, v25, v26, v27, v28, v29, v30, v31], rfl, rfl, fun i v hv => .inr ⟨_, List.mem_cons_self .., G, i, rfl, rfl, hv⟩⟩, ?_⟩
    conv => cbv
    refine hg _ _ _ _ _ _ _ _ _ _ hbF hzF ?_
    rw [hsl]
    rfl
  · refine br_f (by rw [em, cmp_lss hA]; simp; omega) ?_
    conv => cbv
    refine ⟨by decide, ?_⟩
    obtain ⟨ti, hti⟩ : ∃ ti, ti = bin .sub .u64 120 (bin .rem .u64 mi 64) := ⟨_, rfl⟩
    simp (maxSteps := 10000000) only [← hti]
    obtain ⟨t, htt⟩ : ∃ t, t = padN bs.length := ⟨_, rfl⟩
    have hti : ti = (t : Nat) := by rw [hti, em, sub_u64 hA (by omega), htt, padN, if_neg h56]; omega
    rw [← htt] at hpp
    conv => cbv
    refine ⟨by decide, ?_⟩
    have el8 : bin .shl .u64 mi 3 = Ar.real.bin .shl .u64 (bs.length : Nat) 3 := by rw [bin_is hA, hmi]
    obtain ⟨l8, hl8⟩ : ∃ l8, l8 = bin .shl .u64 mi 3 := ⟨_, rfl⟩
    simp (maxSteps := 10000000) only [← hl8]
    rw [el8] at hl8
    have e8 : bin .add .u64 ti 8 = ((t + 8 : Nat) : Int) := by rw [hti, add_u64 hA (by omega)]; rfl
    have e0 : bin .add .u64 ti 0 = ((t : Nat) : Int) := by rw [hti, add_u64 hA (by omega)]; omega
    conv => cbv
    refine raw_slice_arr (n := 72) 0 (t + 8) rfl rfl (.inl ⟨rfl, rfl⟩) (.inr ⟨_, _, _, rfl, rfl, e8⟩) (by omega) (by omega) (by rw [hP]; exact ty114) rfl (by rw [hP]; exact ty5) rfl ?_
    intro pa pn pc hpn hpc hpa
    obtain rfl : A = pa := by rw [hpa (by omega)]; simp [Addr.add]
    conv => cbv
    refine ⟨t, pn, e0.symm, rfl, by omega, by omega, ?_⟩
    intro a1 n1 c1 hn1 hc1 ha1
    obtain rfl : a1 = some (A.add t) := by rw [ha1, if_neg (by omega), Nat.mul_one]; rfl
    obtain ⟨B, hB⟩ : ∃ B, B = A.add t := ⟨_, rfl⟩
    simp (maxSteps := 10000000) only [← hB]
    conv => cbv
    refine put8F hP R _ A B t 72 72 114 n1 c1 z1 l8 hB (by omega) (by rw [hz1, ints_len, List.length_cons, List.length_replicate]; omega) ?_
    intro z2 hz2
    have hz2 : z2 = ints .u8 (pad bs.length ++ (128 :: List.replicate 71 (0 : Int)).drop (t + 8)) := by
      rw [hz2, hz1, pad, ← htt, ← hl8, ← pad_take t (by omega) (by omega)]
      simp only [ints, List.map_append, List.map_take, List.map_drop]
    conv => cbv
    refine CallP.perm (rs := [⟨some D, 75, 75, 92, 1, zs⟩, ⟨some A, 72, 72, 114, 1, z2⟩]) (.swap ..) ?_
    refine writeF hP R _ K hK D zs bs (pad bs.length) hd (some A) A pn pc (by omega) (by rw [pad_len]; omega) (by omega) (fun _ => rfl) (fun j hj => .inr ⟨_, List.mem_cons_self .., A, j, rfl, rfl, ?_⟩) ?_
    · show z2[j]? = _
      have hpl := pad_len bs.length
      rw [hz2, ints_get (by rw [List.length_append]; omega), List.getD_eq_getElem?_getD, List.getElem?_append_left (by omega), ← List.getD_eq_getElem?_getD]
    intro zs' hd'
    have hd'' : DgT K (bs ++ pad bs.length) (bs ++ pad bs.length).length (bs ++ pad bs.length).length zs' := hd'
    have hpl := pad_len bs.length
    rw [List.length_append, hpl] at hd''
    obtain ⟨sF, bF, hzF, hbF, hsF⟩ := hd''.nx0 (by omega)
    obtain ⟨mF, hmF⟩ : ∃ mF : Int, mF = ((bs.length + (padN bs.length + 8) : Nat) : Int) := ⟨_, rfl⟩
    rw [← hmF] at hzF
    conv => cbv
    refine ld_dg (fld__is hA) 72 (v := .int .i64 0) (by rw [hzF]; exact dz_72 sF bF hbF 0 mF) ?_
    conv => cbv
    refine br_f (by rw [cmp_neq hA]; rfl) ?_
    conv => cbv
    refine ⟨_, rfl, by decide, ?_⟩
    intro G n32 g0 hn32 hg0
    obtain rfl : n32 = 32 := hn32
    have hg0 : g0 = ints .u8 (List.replicate 32 0) := by rw [hg0]; rfl
    have hgl0 : g0.length = 32 := by rw [hg0]; rfl
    conv => cbv
    refine ⟨[0, 1, 2, 3, 4, 5, 6], [6], mix hP, by decide +kernel, ?_⟩
    conv => cbv
    refine raw_slice_arr (n := 32) 0 32 rfl rfl (.inr ⟨_, _, _, rfl, rfl, rfl⟩) (.inl ⟨rfl, rfl⟩) (by decide) (by decide) (by rw [hP]; exact ty39) rfl (by rw [hP]; exact ty5) rfl ?_
    intro b0 bn0 bc0 hbn0 hbc0 hb0
    have hb0 : b0 = G.add 0 := hb0 (by decide)
    conv => cbv
    refine ⟨by decide, by rw [ofN_ hA]; decide, rfl, ?_⟩
    refine ld_k2 (j := 0) (v := .int .u32 sF.a) (by rw [hzF]; rfl) ((elem_at (elem_is hA) _ 0 0 rfl).trans (by rw [fld__is hA]; show (D.add 0).add 0 = D.add 0; rw [add_add', Nat.zero_add])) ?_
    obtain ⟨h0, hh0⟩ : ∃ h, h = sF.a := ⟨_, rfl⟩
    rw [← hh0]
    conv => cbv
    refine put4F hP R _ G b0 0 32 32 39 bn0 bc0 g0 h0 hb0 (by omega) (by rw [hgl0]; decide) ?_
    intro g1 hg1
    have hgl1 : g1.length = 32 := by rw [hg1, List.length_append, List.length_append, List.length_take, List.length_drop, hgl0]; rfl
    conv => cbv
    refine ⟨[0, 1, 2, 3, 4, 5, 6], [6], mix hP, by decide +kernel, ?_⟩
    conv => cbv
    refine raw_slice_arr (n := 32) 4 32 rfl rfl (.inr ⟨_, _, _, rfl, rfl, rfl⟩) (.inl ⟨rfl, rfl⟩) (by decide) (by decide) (by rw [hP]; exact ty39) rfl (by rw [hP]; exact ty5) rfl ?_
    intro b1 bn1 bc1 hbn1 hbc1 hb1
    have hb1 : b1 = G.add 4 := hb1 (by decide)
    conv => cbv
    refine ⟨by decide, by rw [ofN_ hA]; decide, rfl, ?_⟩
    refine ld_k2 (j := 1) (v := .int .u32 sF.b) (by rw [hzF]; rfl) ((elem_at (elem_is hA) _ 1 1 rfl).trans (by rw [fld__is hA]; show (D.add 0).add 1 = D.add 1; rw [add_add', Nat.zero_add])) ?_
    obtain ⟨h1, hh1⟩ : ∃ h, h = sF.b := ⟨_, rfl⟩
    rw [← hh1]
    conv => cbv
    refine put4F hP R _ G b1 4 32 32 39 bn1 bc1 g1 h1 hb1 (by omega) (by rw [hgl1]; decide) ?_
    intro g2 hg2
    have hgl2 : g2.length = 32 := by rw [hg2, List.length_append, List.length_append, List.length_take, List.length_drop, hgl1]; rfl
    conv => cbv
    refine ⟨[0, 1, 2, 3, 4, 5, 6], [6], mix hP, by decide +kernel, ?_⟩
    conv => cbv
    refine raw_slice_arr (n := 32) 8 32 rfl rfl (.inr ⟨_, _, _, rfl, rfl, rfl⟩) (.inl ⟨rfl, rfl⟩) (by decide) (by decide) (by rw [hP]; exact ty39) rfl (by rw [hP]; exact ty5) rfl ?_
    intro b2 bn2 bc2 hbn2 hbc2 hb2
    have hb2 : b2 = G.add 8 := hb2 (by decide)
    conv => cbv
    refine ⟨by decide, by rw [ofN_ hA]; decide, rfl, ?_⟩
    refine ld_k2 (j := 2) (v := .int .u32 sF.c) (by rw [hzF]; rfl) ((elem_at (elem_is hA) _ 2 2 rfl).trans (by rw [fld__is hA]; show (D.add 0).add 2 = D.add 2; rw [add_add', Nat.zero_add])) ?_
    obtain ⟨h2, hh2⟩ : ∃ h, h = sF.c := ⟨_, rfl⟩
    rw [← hh2]
    conv => cbv
    refine put4F hP R _ G b2 8 32 32 39 bn2 bc2 g2 h2 hb2 (by omega) (by rw [hgl2]; decide) ?_
    intro g3 hg3
    have hgl3 : g3.length = 32 := by rw [hg3, List.length_append, List.length_append, List.length_take, List.length_drop, hgl2]; rfl
    conv => cbv
    refine ⟨[0, 1, 2, 3, 4, 5, 6], [6], mix hP, by decide +kernel, ?_⟩
    conv => cbv
    refine raw_slice_arr (n := 32) 12 32 rfl rfl (.inr ⟨_, _, _, rfl, rfl, rfl⟩) (.inl ⟨rfl, rfl⟩) (by decide) (by decide) (by rw [hP]; exact ty39) rfl (by rw [hP]; exact ty5) rfl ?_
    intro b3 bn3 bc3 hbn3 hbc3 hb3
    have hb3 : b3 = G.add 12 := hb3 (by decide)
    conv => cbv
    refine ⟨by decide, by rw [ofN_ hA]; decide, rfl, ?_⟩
    refine ld_k2 (j := 3) (v := .int .u32 sF.d) (by rw [hzF]; rfl) ((elem_at (elem_is hA) _ 3 3 rfl).trans (by rw [fld__is hA]; show (D.add 0).add 3 = D.add 3; rw [add_add', Nat.zero_add])) ?_
    obtain ⟨h3, hh3⟩ : ∃ h, h = sF.d := ⟨_, rfl⟩
    rw [← hh3]
    conv => cbv
    refine put4F hP R _ G b3 12 32 32 39 bn3 bc3 g3 h3 hb3 (by omega) (by rw [hgl3]; decide) ?_
    intro g4 hg4
    have hgl4 : g4.length = 32 := by rw [hg4, List.length_append, List.length_append, List.length_take, List.length_drop, hgl3]; rfl
    conv => cbv
    refine ⟨[0, 1, 2, 3, 4, 5, 6], [6], mix hP, by decide +kernel, ?_⟩
    conv => cbv
    refine raw_slice_arr (n := 32) 16 32 rfl rfl (.inr ⟨_, _, _, rfl, rfl, rfl⟩) (.inl ⟨rfl, rfl⟩) (by decide) (by decide) (by rw [hP]; exact ty39) rfl (by rw [hP]; exact ty5) rfl ?_
    intro b4 bn4 bc4 hbn4 hbc4 hb4
    have hb4 : b4 = G.add 16 := hb4 (by decide)
    conv => cbv
    refine ⟨by decide, by rw [ofN_ hA]; decide, rfl, ?_⟩
    refine ld_k2 (j := 4) (v := .int .u32 sF.e) (by rw [hzF]; rfl) ((elem_at (elem_is hA) _ 4 4 rfl).trans (by rw [fld__is hA]; show (D.add 0).add 4 = D.add 4; rw [add_add', Nat.zero_add])) ?_
    obtain ⟨h4, hh4⟩ : ∃ h, h = sF.e := ⟨_, rfl⟩
    rw [← hh4]
    conv => cbv
    refine put4F hP R _ G b4 16 32 32 39 bn4 bc4 g4 h4 hb4 (by omega) (by rw [hgl4]; decide) ?_
    intro g5 hg5
    have hgl5 : g5.length = 32 := by rw [hg5, List.length_append, List.length_append, List.length_take, List.length_drop, hgl4]; rfl
    conv => cbv
    refine ⟨[0, 1, 2, 3, 4, 5, 6], [6], mix hP, by decide +kernel, ?_⟩
    conv => cbv
    refine raw_slice_arr (n := 32) 20 32 rfl rfl (.inr ⟨_, _, _, rfl, rfl, rfl⟩) (.inl ⟨rfl, rfl⟩) (by decide) (by decide) (by rw [hP]; exact ty39) rfl (by rw [hP]; exact ty5) rfl ?_
    intro b5 bn5 bc5 hbn5 hbc5 hb5
    have hb5 : b5 = G.add 20 := hb5 (by decide)
    conv => cbv
    refine ⟨by decide, by rw [ofN_ hA]; decide, rfl, ?_⟩
    refine ld_k2 (j := 5) (v := .int .u32 sF.f) (by rw [hzF]; rfl) ((elem_at (elem_is hA) _ 5 5 rfl).trans (by rw [fld__is hA]; show (D.add 0).add 5 = D.add 5; rw [add_add', Nat.zero_add])) ?_
    obtain ⟨h5, hh5⟩ : ∃ h, h = sF.f := ⟨_, rfl⟩
    rw [← hh5]
    conv => cbv
    refine put4F hP R _ G b5 20 32 32 39 bn5 bc5 g5 h5 hb5 (by omega) (by rw [hgl5]; decide) ?_
    intro g6 hg6
    have hgl6 : g6.length = 32 := by rw [hg6, List.length_append, List.length_append, List.length_take, List.length_drop, hgl5]; rfl
    conv => cbv
    refine ⟨[0, 1, 2, 3, 4, 5, 6], [6], mix hP, by decide +kernel, ?_⟩
    conv => cbv
    refine raw_slice_arr (n := 32) 24 32 rfl rfl (.inr ⟨_, _, _, rfl, rfl, rfl⟩) (.inl ⟨rfl, rfl⟩) (by decide) (by decide) (by rw [hP]; exact ty39) rfl (by rw [hP]; exact ty5) rfl ?_
    intro b6 bn6 bc6 hbn6 hbc6 hb6
    have hb6 : b6 = G.add 24 := hb6 (by decide)
    conv => cbv
    refine ⟨by decide, by rw [ofN_ hA]; decide, rfl, ?_⟩
    refine ld_k2 (j := 6) (v := .int .u32 sF.g) (by rw [hzF]; rfl) ((elem_at (elem_is hA) _ 6 6 rfl).trans (by rw [fld__is hA]; show (D.add 0).add 6 = D.add 6; rw [add_add', Nat.zero_add])) ?_
    obtain ⟨h6, hh6⟩ : ∃ h, h = sF.g := ⟨_, rfl⟩
    rw [← hh6]
    conv => cbv
    refine put4F hP R _ G b6 24 32 32 39 bn6 bc6 g6 h6 hb6 (by omega) (by rw [hgl6]; decide) ?_
    intro g7 hg7
    have hgl7 : g7.length = 32 := by rw [hg7, List.length_append, List.length_append, List.length_take, List.length_drop, hgl6]; rfl
    conv => cbv
    conv => cbv
    refine ld_k2 (j := 74) (v := .bool false) (by rw [hzF]; exact dz_74 sF bF hbF 0 mF) (fld_at (fld__is hA) D 74) ?_
    conv => cbv
    refine br_t (by rw [bnot_ hA]; rfl) ?_
    conv => cbv
    refine ⟨[0, 1, 2, 3, 4, 5, 6], [6], mix hP, by decide +kernel, ?_⟩
    conv => cbv
    refine raw_slice_arr (n := 32) 28 32 rfl rfl (.inr ⟨_, _, _, rfl, rfl, rfl⟩) (.inl ⟨rfl, rfl⟩) (by decide) (by decide) (by rw [hP]; exact ty39) rfl (by rw [hP]; exact ty5) rfl ?_
    intro b7 bn7 bc7 hbn7 hbc7 hb7
    have hb7 : b7 = G.add 28 := hb7 (by decide)
    conv => cbv
    refine ⟨by decide, by rw [ofN_ hA]; decide, rfl, ?_⟩
    refine ld_k2 (j := 7) (v := .int .u32 sF.h) (by rw [hzF]; rfl) ((elem_at (elem_is hA) _ 7 7 rfl).trans (by rw [fld__is hA]; show (D.add 0).add 7 = D.add 7; rw [add_add', Nat.zero_add])) ?_
    obtain ⟨h7, hh7⟩ : ∃ h, h = sF.h := ⟨_, rfl⟩
    rw [← hh7]
    conv => cbv
    refine put4F hP R _ G b7 28 32 32 39 bn7 bc7 g7 h7 hb7 (by omega) (by rw [hgl7]; decide) ?_
    intro g8 hg8
    have hgl8 : g8.length = 32 := by rw [hg8, List.length_append, List.length_append, List.length_take, List.length_drop, hgl7]; rfl
    conv => cbv
    have hgF : g8 = ints .u8 (sha K bs) := by
      have hS : shaS K bs = sF := by rw [shaS, hsF, Nat.add_assoc]
      rw [hg8, hh7, hg7, hh6, hg6, hh5, hg5, hh4, hg4, hh3, hg3, hh2, hg2, hh1, hg1, hh0, hg0, sha, hS]
      rfl
    obtain ⟨v0, v1, v2, v3, v4, v5, v6, v7, v8, v9, v10, v11, v12, v13, v14, v15, v16, v17, v18, v19, v20, v21, v22, v23, v24, v25, v26, v27, v28, v29, v30, v31, hsl⟩ := list32 (sha K bs) (sha_len K bs)
    rw [hsl] at hgF
    subst hgF
    conv => cbv
    refine ⟨_, ⟨ints .u8 [v0, v1, v2, v3, v4, v5, v6, v7, v8, v9, v10, v11, v12, v13, v14, v15, v16, v17, v18, v19, v20, v21, v22, v23, v24, v25, v26, v27, v28, v29, v30, v31], rfl, rfl, fun i v hv => .inr ⟨_, List.mem_cons_self .., G, i, rfl, rfl, hv⟩⟩, ?_⟩
    conv => cbv
    refine hg _ _ _ _ _ _ _ _ _ _ hbF hzF ?_
    rw [hsl]
    rfl
end Go.Proofs.YtepfbdfbfimefaaDoor.Sha
end
section
namespace Go.Proofs.YtepfbdfbfimefaaDoor.Tyso
open Go Go.Se Go.Proofs

/-- int -/
def y3 : Ty := ⟨.int .i64, 1, false, .int .i64 0, 8⟩
theorem ty3 : tyOf Tryd.prog 3 = some y3 := by kernel_rfl
/-- bool -/
def y4 : Ty := ⟨.bool, 1, false, .bool false, 1⟩
theorem ty4 : tyOf Tryd.prog 4 = some y4 := by kernel_rfl
/-- uint8 -/
def y5 : Ty := ⟨.int .u8, 1, false, .int .u8 0, 1⟩
theorem ty5 : tyOf Tryd.prog 5 = some y5 := by kernel_rfl
/-- []uint8 -/
def y22 : Ty := ⟨.slc 5, 1, false, .slice none 0 0, 24⟩
theorem ty22 : tyOf Tryd.prog 22 = some y22 := by kernel_rfl
/-- uint64 -/
def y33 : Ty := ⟨.int .u64, 1, false, .int .u64 0, 8⟩
theorem ty33 : tyOf Tryd.prog 33 = some y33 := by kernel_rfl
/-- [32]uint8 -/
def y39 : Ty := ⟨.arr 32 5, 32, true, .agg #[.int .u8 0, .int .u8 0, .int .u8 0, .int .u8 0, .int .u8 0, .int .u8 0, .int .u8 0, .int .u8 0, .int .u8 0, .int .u8 0, .int .u8 0, .int .u8 0, .int .u8 0, .int .u8 0, .int .u8 0, .int .u8 0, .int .u8 0, .int .u8 0, .int .u8 0, .int .u8 0, .int .u8 0, .int .u8 0, .int .u8 0, .int .u8 0, .int .u8 0, .int .u8 0, .int .u8 0, .int .u8 0, .int .u8 0, .int .u8 0, .int .u8 0, .int .u8 0], 32⟩
theorem ty39 : tyOf Tryd.prog 39 = some y39 := by kernel_rfl
/-- uint32 -/
def y68 : Ty := ⟨.int .u32, 1, false, .int .u32 0, 4⟩
theorem ty68 : tyOf Tryd.prog 68 = some y68 := by kernel_rfl
/-- [8]uint32 -/
def y89 : Ty := ⟨.arr 8 68, 8, true, .agg #[.int .u32 0, .int .u32 0, .int .u32 0, .int .u32 0, .int .u32 0, .int .u32 0, .int .u32 0, .int .u32 0], 32⟩
theorem ty89 : tyOf Tryd.prog 89 = some y89 := by kernel_rfl
/-- [64]uint8 -/
def y90 : Ty := ⟨.arr 64 5, 64, true, .agg #[.int .u8 0, .int .u8 0, .int .u8 0, .int .u8 0, .int .u8 0, .int .u8 0, .int .u8 0, .int .u8 0, .int .u8 0, .int .u8 0, .int .u8 0, .int .u8 0, .int .u8 0, .int .u8 0, .int .u8 0, .int .u8 0, .int .u8 0, .int .u8 0, .int .u8 0, .int .u8 0, .int .u8 0, .int .u8 0, .int .u8 0, .int .u8 0, .int .u8 0, .int .u8 0, .int .u8 0, .int .u8 0, .int .u8 0, .int .u8 0, .int .u8 0, .int .u8 0, .int .u8 0, .int .u8 0, .int .u8 0, .int .u8 0, .int .u8 0, .int .u8 0, .int .u8 0, .int .u8 0, .int .u8 0, .int .u8 0, .int .u8 0, .int .u8 0, .int .u8 0, .int .u8 0, .int .u8 0, .int .u8 0, .int .u8 0, .int .u8 0, .int .u8 0, .int .u8 0, .int .u8 0, .int .u8 0, .int .u8 0, .int .u8 0, .int .u8 0, .int .u8 0, .int .u8 0, .int .u8 0, .int .u8 0, .int .u8 0, .int .u8 0, .int .u8 0], 64⟩
theorem ty90 : tyOf Tryd.prog 90 = some y90 := by kernel_rfl
/-- sha256.Digest -/
def y92 : Ty := ⟨.stc [(0, 89), (8, 90), (72, 3), (73, 33), (74, 4)], 75, true, .agg #[.int .u32 0, .int .u32 0, .int .u32 0, .int .u32 0, .int .u32 0, .int .u32 0, .int .u32 0, .int .u32 0, .int .u8 0, .int .u8 0, .int .u8 0, .int .u8 0, .int .u8 0, .int .u8 0, .int .u8 0, .int .u8 0, .int .u8 0, .int .u8 0, .int .u8 0, .int .u8 0, .int .u8 0, .int .u8 0, .int .u8 0, .int .u8 0, .int .u8 0, .int .u8 0, .int .u8 0, .int .u8 0, .int .u8 0, .int .u8 0, .int .u8 0, .int .u8 0, .int .u8 0, .int .u8 0, .int .u8 0, .int .u8 0, .int .u8 0, .int .u8 0, .int .u8 0, .int .u8 0, .int .u8 0, .int .u8 0, .int .u8 0, .int .u8 0, .int .u8 0, .int .u8 0, .int .u8 0, .int .u8 0, .int .u8 0, .int .u8 0, .int .u8 0, .int .u8 0, .int .u8 0, .int .u8 0, .int .u8 0, .int .u8 0, .int .u8 0, .int .u8 0, .int .u8 0, .int .u8 0, .int .u8 0, .int .u8 0, .int .u8 0, .int .u8 0, .int .u8 0, .int .u8 0, .int .u8 0, .int .u8 0, .int .u8 0, .int .u8 0, .int .u8 0, .int .u8 0, .int .i64 0, .int .u64 0, .bool false], 120⟩
theorem ty92 : tyOf Tryd.prog 92 = some y92 := by kernel_rfl

/-- function 80: (*crypto/internal/fips140/sha256.Digest).Sum -/
def tys80 : Nat → Option Ty := fun t => find [(92, y92), (39, y39), (5, y5), (89, y89), (68, y68), (90, y90), (3, y3), (33, y33), (4, y4), (22, y22)] t
theorem ok80 : TysOk Tryd.prog tys80 := tysOk_of ⟨ty92, ty39, ty5, ty89, ty68, ty90, ty3, ty33, ty4, ty22, trivial⟩

/-- function 82: crypto/internal/fips140.RecordApproved -/
def tys82 : Nat → Option Ty := fun t => find [(5, y5)] t
theorem ok82 : TysOk Tryd.prog tys82 := tysOk_of ⟨ty5, trivial⟩
end Go.Proofs.YtepfbdfbfimefaaDoor.Tyso
end
