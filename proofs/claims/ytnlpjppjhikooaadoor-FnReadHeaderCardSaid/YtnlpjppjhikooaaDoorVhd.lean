/- A header of eighty bytes: the package. -/
import Derived.Test.YtnlpjppjhikooaaDoorVhca
import Derived.Test.YtnlpjppjhikooaaDoorVhcb
import Derived.Test.YtnlpjppjhikooaaDoorVhcc
import Derived.Test.YtnlpjppjhikooaaDoorVhcd
import Derived.Test.YtnlpjppjhikooaaDoorVhce
import Derived.Test.YtnlpjppjhikooaaDoorVhb
import Derived.Test.YtnlpjppjhikooaaDoorVval
import Derived.Test.YtnlpjppjhikooaaDoorTyvj
set_option linter.unusedSimpArgs false
set_option linter.unusedVariables false
namespace Go.Proofs.YtnlpjppjhikooaaDoor.Vh
open Go Go.Se Go.Proofs Go.Proofs.YtnlpjppjhikooaaDoor.Tyvj
open Go.Proofs.YtnlpjppjhikooaaDoor.Vr (mix methRead src0 add0 harmReturn ints_zero val4 or32)
open Go.Proofs.YtnlpjppjhikooaaDoor.Vd (Ers)
open Go.Proofs.YtnlpjppjhikooaaDoor.Vs (lv lv_lt hd hdx hz)

theorem four {xs : List Int} {p : Nat} (h : p + 4 ≤ xs.length) : (xs.drop p).take 4 = [xs.getD p 0, xs.getD (p + 1) 0, xs.getD (p + 2) 0, xs.getD (p + 3) 0] := by
  apply List.ext_getElem
  · simp; omega
  · intro i h1 h2
    simp at h1
    rcases i with _ | _ | _ | _ | i
    · simp [List.getD]; rw [List.getElem?_eq_getElem (by omega)]; rfl
    · simp [List.getD]; rw [List.getElem?_eq_getElem (by omega)]; rfl
    · simp [List.getD]; rw [List.getElem?_eq_getElem (by omega)]; rfl
    · simp [List.getD]; rw [List.getElem?_eq_getElem (by omega)]; rfl
    · omega

theorem mem4 {p : Int → Prop} {a b c d : Int} (h1 : p a) (h2 : p b) (h3 : p c) (h4 : p d) : ∀ x ∈ [a, b, c, d], p x := by
  intro x hx
  simp only [List.mem_cons, List.not_mem_nil, or_false] at hx
  rcases hx with rfl | rfl | rfl | rfl
  · exact h1
  · exact h2
  · exact h3
  · exact h4

theorem upd {zh z z' A vs : List Value} {k m : Nat} (hz : z = A ++ zh.drop k) (hA : A.length = k) (hm : vs.length = m) (hz' : z' = z.take k ++ vs ++ z.drop (k + m)) : z' = (A ++ vs) ++ zh.drop (k + m) := by
  have h1 : z.take k = A := by rw [hz, ← hA, List.take_left]
  have h2 : z.drop (k + m) = zh.drop (k + m) := by
    rw [hz, ← List.drop_drop]
    conv => lhs; rw [← hA, List.drop_left, hA, List.drop_drop]
  rw [hz', h1, h2]

section
variable {bin : BinOp → IntKind → Int → Int → Int} {cmp : BinOp → Int → Int → Bool} {cnv : IntKind → Int → Int} {neg : IntKind → Int → Int} {com : IntKind → Int → Int} {bnot : Bool → Bool} {beq : Bool → Bool → Bool} {ofN : Nat → Int} {toN : Int → Nat} {at_ : Nat → Nat → Nat → Nat} {sub_ : Nat → Nat → Nat} {scmp : BinOp → ByteArray → ByteArray → Bool} {cat : ByteArray → ByteArray → ByteArray} {sget : ByteArray → Int → Int} {ssz : ByteArray → Nat} {ssub : ByteArray → Nat → Nat → ByteArray} {elem : Option Addr → Int → Nat → Addr} {fld_ : Addr → Nat → Addr}
  (hA : (⟨bin, cmp, cnv, neg, com, bnot, beq, ofN, toN, at_, sub_, scmp, cat, sget, ssz, ssub, elem, fld_⟩ : Ar) = Ar.real)
include hA

theorem u32v {D0 D1 D2 D3 : Int} (hb : ∀ x ∈ [D0, D1, D2, D3], 0 ≤ x ∧ x ≤ 255) : bin .or .u32 (bin .or .u32 (bin .or .u32 (cnv .u32 D0) (bin .shl .u32 (cnv .u32 D1) 8)) (bin .shl .u32 (cnv .u32 D2) 16)) (bin .shl .u32 (cnv .u32 D3) 24) = lv [D0, D1, D2, D3] := by
  have b0 := hb D0 (by simp)
  have b1 := hb D1 (by simp)
  have b2 := hb D2 (by simp)
  have b3 := hb D3 (by simp)
  obtain ⟨e0, h0⟩ : ∃ e : Nat, D0 = e := ⟨D0.toNat, by omega⟩
  obtain ⟨e1, h1⟩ : ∃ e : Nat, D1 = e := ⟨D1.toNat, by omega⟩
  obtain ⟨e2, h2⟩ : ∃ e : Nat, D2 = e := ⟨D2.toNat, by omega⟩
  obtain ⟨e3, h3⟩ : ∃ e : Nat, D3 = e := ⟨D3.toNat, by omega⟩
  subst h0
  subst h1
  subst h2
  subst h3
  rw [cnv_u32 hA (by omega), cnv_u32 hA (by omega), cnv_u32 hA (by omega), cnv_u32 hA (by omega), or32 hA (s := 8) (si := 8) (by omega) (by omega) (by omega) rfl, or32 hA (s := 16) (si := 16) (by omega) (by omega) (by omega) rfl, or32 hA (s := 24) (si := 24) (by omega) (by omega) (by omega) rfl]
  show _ = (((0 * 256 + (e3 : Int)) * 256 + e2) * 256 + e1) * 256 + e0
  omega
end






set_option maxRecDepth 100000 in
set_option maxHeartbeats 8000000 in
theorem headerI {P : Program} (hP : P = Tryd.prog) (R : RO) (ae au : Addr) (hE : Ers R ae au) (ai : Option Addr) (N c : Nat) (xs : List Int) (hb : RI R .u8 ai N xs) (hN : N ≤ 100000) (hc : N ≤ c) (H : List Value) (hH : H = hdx xs) :
    RetP P 23 [.slice ai N c] R fun R' r => (N < 80 ∧ r = .tuple #[.agg hz.toArray, .int .i64 1]) ∨ (80 ≤ N ∧ r = .tuple #[.agg H.toArray, .int .i64 0]) := by
  subst hP
  have hl := hb.len
  have hxb : ∀ x ∈ xs, 0 ≤ x ∧ x ≤ 255 := fun x hx => by
    have := hb.wf x hx
    simp [Lit.wf, IntKind.min, IntKind.max, IntKind.bits, IntKind.signed] at this
    omega
  have hgb : ∀ i, 0 ≤ xs.getD i 0 ∧ xs.getD i 0 ≤ 255 := fun i => hb.u8 i
  obtain ⟨d0, hd0⟩ : ∃ d, d = xs.getD 0 0 := ⟨_, rfl⟩
  have hg0 : 0 ≤ d0 ∧ d0 ≤ 255 := by rw [hd0]; exact hgb _
  obtain ⟨d1, hd1⟩ : ∃ d, d = xs.getD 1 0 := ⟨_, rfl⟩
  have hg1 : 0 ≤ d1 ∧ d1 ≤ 255 := by rw [hd1]; exact hgb _
  obtain ⟨d2, hd2⟩ : ∃ d, d = xs.getD 2 0 := ⟨_, rfl⟩
  have hg2 : 0 ≤ d2 ∧ d2 ≤ 255 := by rw [hd2]; exact hgb _
  obtain ⟨d3, hd3⟩ : ∃ d, d = xs.getD 3 0 := ⟨_, rfl⟩
  have hg3 : 0 ≤ d3 ∧ d3 ≤ 255 := by rw [hd3]; exact hgb _
  obtain ⟨d68, hd68⟩ : ∃ d, d = xs.getD 68 0 := ⟨_, rfl⟩
  have hg68 : 0 ≤ d68 ∧ d68 ≤ 255 := by rw [hd68]; exact hgb _
  obtain ⟨d69, hd69⟩ : ∃ d, d = xs.getD 69 0 := ⟨_, rfl⟩
  have hg69 : 0 ≤ d69 ∧ d69 ≤ 255 := by rw [hd69]; exact hgb _
  obtain ⟨d70, hd70⟩ : ∃ d, d = xs.getD 70 0 := ⟨_, rfl⟩
  have hg70 : 0 ≤ d70 ∧ d70 ≤ 255 := by rw [hd70]; exact hgb _
  obtain ⟨d71, hd71⟩ : ∃ d, d = xs.getD 71 0 := ⟨_, rfl⟩
  have hg71 : 0 ≤ d71 ∧ d71 ≤ 255 := by rw [hd71]; exact hgb _
  obtain ⟨d72, hd72⟩ : ∃ d, d = xs.getD 72 0 := ⟨_, rfl⟩
  have hg72 : 0 ≤ d72 ∧ d72 ≤ 255 := by rw [hd72]; exact hgb _
  obtain ⟨d73, hd73⟩ : ∃ d, d = xs.getD 73 0 := ⟨_, rfl⟩
  have hg73 : 0 ≤ d73 ∧ d73 ≤ 255 := by rw [hd73]; exact hgb _
  obtain ⟨d74, hd74⟩ : ∃ d, d = xs.getD 74 0 := ⟨_, rfl⟩
  have hg74 : 0 ≤ d74 ∧ d74 ≤ 255 := by rw [hd74]; exact hgb _
  obtain ⟨d75, hd75⟩ : ∃ d, d = xs.getD 75 0 := ⟨_, rfl⟩
  have hg75 : 0 ≤ d75 ∧ d75 ≤ 255 := by rw [hd75]; exact hgb _
  obtain ⟨d76, hd76⟩ : ∃ d, d = xs.getD 76 0 := ⟨_, rfl⟩
  have hg76 : 0 ≤ d76 ∧ d76 ≤ 255 := by rw [hd76]; exact hgb _
  obtain ⟨d77, hd77⟩ : ∃ d, d = xs.getD 77 0 := ⟨_, rfl⟩
  have hg77 : 0 ≤ d77 ∧ d77 ≤ 255 := by rw [hd77]; exact hgb _
  obtain ⟨d78, hd78⟩ : ∃ d, d = xs.getD 78 0 := ⟨_, rfl⟩
  have hg78 : 0 ≤ d78 ∧ d78 ≤ 255 := by rw [hd78]; exact hgb _
  obtain ⟨d79, hd79⟩ : ∃ d, d = xs.getD 79 0 := ⟨_, rfl⟩
  have hg79 : 0 ≤ d79 ∧ d79 ≤ 255 := by rw [hd79]; exact hgb _
  refine retP_vc (fz := [504]) Tryd.func23 rfl (by decide) rfl ok23 ?_
  intro P bin cmp cnv neg com bnot beq ofN toN at_ sub_ scmp cat sget ssz ssub elem fld_ hP hA
  conv => cbv
  have nt : bnot true = false := by rw [bnot_ hA]; rfl
  have nf : bnot false = true := by rw [bnot_ hA]; rfl
  refine ⟨_, rfl, by decide, ?_⟩
  intro a0 n0 zh hn0 hzh
  obtain rfl : n0 = 68 := hn0
  have hzh0 : zh.length = 68 := by rw [hzh]; rfl
  conv => cbv
  refine callP_in (fz := []) hP hA Tryd.func41 rfl (by decide) rfl ok41 (by simp [labL, lab]) ?_
  conv => cbv
  refine callP_in (fz := []) hP hA Tryd.func68 rfl (by decide) rfl ok68 (by simp [labL, lab]) ?_
  conv => cbv
  refine callP_in (fz := []) hP hA Tryd.func50 rfl (by decide) rfl ok50 (by simp [labL, lab]) ?_
  conv => cbv
  refine callP_in (fz := []) hP hA Tryd.func76 rfl (by decide) rfl ok76 (by simp [labL, lab]) ?_
  conv => cbv
  refine callP_in (fz := []) hP hA Tryd.func65 rfl (by decide) rfl ok65 (by simp [labL, lab]) ?_
  conv => cbv
  refine ⟨by decide, by decide, by decide, by decide, ?_⟩
  intro ab nb cb zb hnb hcb hzb
  obtain rfl : nb = 8 := by omega
  obtain rfl : cb = 8 := by omega
  rw [ints_zero] at hzb
  conv => cbv
  refine callP_in (fz := []) hP hA Tryd.func109 rfl (by decide) rfl ok109 (by simp [labL, lab]) ?_
  conv => cbv
  refine ⟨0, 4, rfl, rfl, by decide, by decide, ?_⟩
  intro aTAG nTAG cTAG hnTAG hcTAG haTAG
  obtain rfl : nTAG = 4 := by omega
  obtain rfl : cTAG = 8 := by omega
  obtain rfl : aTAG = some (ab.add 0) := by rw [haTAG]; rfl
  conv => cbv
  refine readA hP R ae au hE ai (ab.add 0) ab 0 rfl N c 4 8 0 0 rfl (-1) xs zb hb (by omega) hc (by omega) (by decide) (by decide) 8 8 (by decide) (by rw [hzb]; rfl) _ ?_ ?_
  case refine_2 =>
    intro hlt z1 pr1 q1 m1 t1 ad1 hzl
    conv => cbv
    simp (maxSteps := 10000000) only [nf]
    conv => cbv
    refine callP_in (fz := []) hP hA Tryd.func66 rfl (by decide) rfl ok66 (by simp [labL, lab]) ?_
    conv => cbv
    simp (maxSteps := 10000000) only [nf]
    conv => cbv
    intro ρ R'' _ _ _
    exact .inl ⟨by omega, rfl⟩
  intro hle1 z1 pr1 q1 m1 hq1 hm1 hz1
  conv => cbv
  simp (maxSteps := 10000000) only [nt]
  conv => cbv
  have hy1 : z1 = [.int .u8 d0, .int .u8 d1, .int .u8 d2, .int .u8 d3] ++ zb.drop (0 + 4) := by rw [hz1, four (p := 0) (by omega), hd0, hd1, hd2, hd3]; rfl
  refine ⟨[0, 1, 2, 3, 4, 5, 6, 7, 8], [8], mix hP, by kernel_rfl, ?_⟩
  conv => cbv
  refine ⟨_, ⟨[], rfl, rfl, fun i v h => nomatch h⟩, ?_⟩
  conv => cbv
  refine ⟨0, 4, rfl, rfl, by decide, by decide, ?_⟩
  intro aTAG nTAG cTAG hnTAG hcTAG haTAG
  obtain rfl : nTAG = 4 := by omega
  obtain rfl : cTAG = 8 := by omega
  obtain rfl : aTAG = some (ab.add 0) := by rw [haTAG]; rfl
  conv => cbv
  refine callP_in (fz := []) hP hA Tryd.func105 rfl (by decide) rfl ok105 (by simp [labL, lab]) ?_
  conv => cbv
  refine ⟨by decide, by rw [ofN_ hA]; decide, rfl, ?_⟩
  refine ld_row hA 0 (r := ⟨some ab, 8, 8, 5, 1, z1⟩) rfl rfl rfl (v := .int .u8 d3) (i := 3) (by show z1[3]? = _; rw [hy1]; rfl) ?_
  conv => cbv
  refine ⟨[0, 1, 2, 3, 4, 5, 6, 7, 8, 9, 10, 11, 12, 13, 14, 15, 16, 17, 18, 19, 20, 21, 22], [], mix hP, by kernel_rfl, ?_⟩
  conv => cbv
  refine ⟨by decide, by rw [ofN_ hA]; decide, rfl, ?_⟩
  refine ld_row hA 0 (r := ⟨some ab, 8, 8, 5, 1, z1⟩) rfl rfl rfl (v := .int .u8 d0) (i := 0) (by show z1[0]? = _; rw [hy1]; rfl) ?_
  conv => cbv
  refine ⟨by decide, by rw [ofN_ hA]; decide, rfl, ?_⟩
  refine ld_row hA 0 (r := ⟨some ab, 8, 8, 5, 1, z1⟩) rfl rfl rfl (v := .int .u8 d1) (i := 1) (by show z1[1]? = _; rw [hy1]; rfl) ?_
  conv => cbv
  refine ⟨by decide, ?_⟩
  refine ⟨by decide, by rw [ofN_ hA]; decide, rfl, ?_⟩
  refine ld_row hA 0 (r := ⟨some ab, 8, 8, 5, 1, z1⟩) rfl rfl rfl (v := .int .u8 d2) (i := 2) (by show z1[2]? = _; rw [hy1]; rfl) ?_
  conv => cbv
  refine ⟨by decide, ?_⟩
  refine ⟨by decide, by rw [ofN_ hA]; decide, rfl, ?_⟩
  refine ld_row hA 0 (r := ⟨some ab, 8, 8, 5, 1, z1⟩) rfl rfl rfl (v := .int .u8 d3) (i := 3) (by show z1[3]? = _; rw [hy1]; rfl) ?_
  conv => cbv
  refine ⟨by decide, ?_⟩
  refine ⟨⟨⟨rfl, rfl, rfl, trivial⟩, .refl _⟩, ?_⟩
  conv => cbv
  have hv1 := u32v hA (D0 := d0) (D1 := d1) (D2 := d2) (D3 := d3) (mem4 hg0 hg1 hg2 hg3)
  obtain ⟨w1, hw1⟩ : ∃ w, w = lv [d0, d1, d2, d3] := ⟨_, rfl⟩
  rw [← hw1] at hv1
  simp (maxSteps := 10000000) only [hv1]
  conv => cbv
  have hlzh := hzh0
  refine ⟨1, _, a0, 0, rfl, rfl, by rw [fld__is hA]; rfl, by show 0 + 1 ≤ zh.length; rw [hlzh]; decide, ?_⟩
  intro y1 hy1_
  have hly1 : y1.length = 68 := by rw [hy1_]; show (List.take 0 zh ++ [_] ++ List.drop (0 + 1) zh).length = 68; simp [hlzh]
  conv => cbv
  refine readB hP R ae au hE  ai (fld_ a0 1) a0 1 (by rw [fld__is hA]; rfl) N c 32 32 4 q1 hq1 pr1 xs y1 hb (by omega) hc (by omega) (by decide) (by decide) 68 68 (by decide) hly1 _ ?_ ?_
  case refine_2 =>
    intro hlt2 zb2 pr2 q2 m2 t2 ad2 hzl2
    conv => cbv
    simp (maxSteps := 10000000) only [nf]
    conv => cbv
    refine callP_in (fz := []) hP hA Tryd.func66 rfl (by decide) rfl ok66 (by simp [labL, lab]) ?_
    conv => cbv
    simp (maxSteps := 10000000) only [nf]
    conv => cbv
    intro ρ R'' _ _ _
    exact .inl ⟨by omega, rfl⟩
  intro hle2 z2 pr2 q2 m2 hq2 hm2 hz2
  conv => cbv
  simp (maxSteps := 10000000) only [nt]
  conv => cbv
  have hlz2 : z2.length = 68 := by rw [hz2]; simp [ints_len, hly1]; omega
  refine readB hP R ae au hE  ai (fld_ a0 33) a0 33 (by rw [fld__is hA]; rfl) N c 32 32 36 q2 hq2 pr2 xs z2 hb (by omega) hc (by omega) (by decide) (by decide) 68 68 (by decide) hlz2 _ ?_ ?_
  case refine_2 =>
    intro hlt3 zb3 pr3 q3 m3 t3 ad3 hzl3
    conv => cbv
    simp (maxSteps := 10000000) only [nf]
    conv => cbv
    refine callP_in (fz := []) hP hA Tryd.func66 rfl (by decide) rfl ok66 (by simp [labL, lab]) ?_
    conv => cbv
    simp (maxSteps := 10000000) only [nf]
    conv => cbv
    intro ρ R'' _ _ _
    exact .inl ⟨by omega, rfl⟩
  intro hle3 z3 pr3 q3 m3 hq3 hm3 hz3
  conv => cbv
  simp (maxSteps := 10000000) only [nt]
  conv => cbv
  have hlz3 : z3.length = 68 := by rw [hz3]; simp [ints_len, hlz2]; omega
  have hlz1 : z1.length = 8 := by rw [hy1, hzb]; rfl
  refine ⟨0, 4, rfl, rfl, by decide, by decide, ?_⟩
  intro aTAG nTAG cTAG hnTAG hcTAG haTAG
  obtain rfl : nTAG = 4 := by omega
  obtain rfl : cTAG = 8 := by omega
  obtain rfl : aTAG = some (ab.add 0) := by rw [haTAG]; rfl
  conv => cbv
  refine readC hP R ae au hE  ai (ab.add 0) ab 0 rfl N c 4 8 68 q3 hq3 pr3 xs z1 hb (by omega) hc (by omega) (by decide) (by decide) 8 8 (by decide) hlz1 _ ?_ ?_
  case refine_2 =>
    intro hlt4 zb4 pr4 q4 m4 t4 ad4 hzl4
    conv => cbv
    simp (maxSteps := 10000000) only [nf]
    conv => cbv
    refine callP_in (fz := []) hP hA Tryd.func66 rfl (by decide) rfl ok66 (by simp [labL, lab]) ?_
    conv => cbv
    simp (maxSteps := 10000000) only [nf]
    conv => cbv
    intro ρ R'' _ _ _
    exact .inl ⟨by omega, rfl⟩
  intro hle4 z4 pr4 q4 m4 hq4 hm4 hz4
  conv => cbv
  simp (maxSteps := 10000000) only [nt]
  conv => cbv
  have hy4 : z4 = [.int .u8 d68, .int .u8 d69, .int .u8 d70, .int .u8 d71] ++ z1.drop (0 + 4) := by rw [hz4, four (p := 68) (by omega), hd68, hd69, hd70, hd71]; rfl
  have hlz4 : z4.length = 8 := by rw [hy4]; simp [hlz1]
  refine ⟨[0, 1, 2, 3, 4, 5, 6, 7, 8, 9], [6, 9], mix hP, by kernel_rfl, ?_⟩
  conv => cbv
  refine ⟨_, ⟨[], rfl, rfl, fun i v h => nomatch h⟩, ?_⟩
  conv => cbv
  refine ⟨0, 4, rfl, rfl, by decide, by decide, ?_⟩
  intro aTAG nTAG cTAG hnTAG hcTAG haTAG
  obtain rfl : nTAG = 4 := by omega
  obtain rfl : cTAG = 8 := by omega
  obtain rfl : aTAG = some (ab.add 0) := by rw [haTAG]; rfl
  conv => cbv
  refine callP_in (fz := []) hP hA Tryd.func105 rfl (by decide) rfl ok105 (by simp [labL, lab]) ?_
  conv => cbv
  refine ⟨by decide, by rw [ofN_ hA]; decide, rfl, ?_⟩
  refine ld_row hA 0 (r := ⟨some ab, 8, 8, 5, 1, z4⟩) rfl rfl rfl (v := .int .u8 d71) (i := 3) (by show z4[3]? = _; rw [hy4]; rfl) ?_
  conv => cbv
  refine ⟨[0, 1, 2, 3, 4, 5, 6, 7, 8, 9, 10, 11, 12, 13, 14, 15, 16, 17, 18, 19, 20, 21, 22], [], mix hP, by kernel_rfl, ?_⟩
  conv => cbv
  refine ⟨by decide, by rw [ofN_ hA]; decide, rfl, ?_⟩
  refine ld_row hA 0 (r := ⟨some ab, 8, 8, 5, 1, z4⟩) rfl rfl rfl (v := .int .u8 d68) (i := 0) (by show z4[0]? = _; rw [hy4]; rfl) ?_
  conv => cbv
  refine ⟨by decide, by rw [ofN_ hA]; decide, rfl, ?_⟩
  refine ld_row hA 0 (r := ⟨some ab, 8, 8, 5, 1, z4⟩) rfl rfl rfl (v := .int .u8 d69) (i := 1) (by show z4[1]? = _; rw [hy4]; rfl) ?_
  conv => cbv
  refine ⟨by decide, ?_⟩
  refine ⟨by decide, by rw [ofN_ hA]; decide, rfl, ?_⟩
  refine ld_row hA 0 (r := ⟨some ab, 8, 8, 5, 1, z4⟩) rfl rfl rfl (v := .int .u8 d70) (i := 2) (by show z4[2]? = _; rw [hy4]; rfl) ?_
  conv => cbv
  refine ⟨by decide, ?_⟩
  refine ⟨by decide, by rw [ofN_ hA]; decide, rfl, ?_⟩
  refine ld_row hA 0 (r := ⟨some ab, 8, 8, 5, 1, z4⟩) rfl rfl rfl (v := .int .u8 d71) (i := 3) (by show z4[3]? = _; rw [hy4]; rfl) ?_
  conv => cbv
  refine ⟨by decide, ?_⟩
  refine ⟨⟨⟨rfl, rfl, rfl, rfl, trivial⟩, .refl _⟩, ?_⟩
  conv => cbv
  have hv2 := u32v hA (D0 := d68) (D1 := d69) (D2 := d70) (D3 := d71) (mem4 hg68 hg69 hg70 hg71)
  obtain ⟨w2, hw2⟩ : ∃ w, w = lv [d68, d69, d70, d71] := ⟨_, rfl⟩
  rw [← hw2] at hv2
  simp (maxSteps := 10000000) only [hv2]
  conv => cbv
  have hr2 := lv_lt [d68, d69, d70, d71] (mem4 hg68 hg69 hg70 hg71)
  rw [← hw2, show (256 : Int) ^ [d68, d69, d70, d71].length = 4294967296 by show (256 : Int) ^ 4 = _; decide] at hr2
  have ec2 : cnv .i64 w2 = w2 := cnv_i64 hA (by omega)
  have ec3 : cnv .u32 w2 = w2 := cnv_u32 hA (by omega)
  simp (maxSteps := 10000000) only [ec2]
  refine callP_in (fz := []) hP hA Tryd.func125 rfl (by decide) rfl ok125 (by simp [labL, lab]) ?_
  conv => cbv
  refine ⟨1, _, a0, 65, rfl, rfl, by rw [fld__is hA]; rfl, by show 65 + 1 ≤ z3.length; rw [hlz3]; decide, ?_⟩
  intro y4 hy4_
  have hly4 : y4.length = 68 := by rw [hy4_]; show (List.take 65 z3 ++ [_] ++ List.drop (65 + 1) z3).length = 68; simp [hlz3]
  conv => cbv
  refine ⟨0, 4, rfl, rfl, by decide, by decide, ?_⟩
  intro aTAG nTAG cTAG hnTAG hcTAG haTAG
  obtain rfl : nTAG = 4 := by omega
  obtain rfl : cTAG = 8 := by omega
  obtain rfl : aTAG = some (ab.add 0) := by rw [haTAG]; rfl
  conv => cbv
  refine readD hP R ae au hE w2 ai (ab.add 0) ab 0 rfl N c 4 8 72 q4 hq4 pr4 xs z4 hb (by omega) hc (by omega) (by decide) (by decide) 8 8 (by decide) hlz4 _ ?_ ?_
  case refine_2 =>
    intro hlt5 zb5 pr5 q5 m5 t5 ad5 hzl5
    conv => cbv
    simp (maxSteps := 10000000) only [nf]
    conv => cbv
    refine callP_in (fz := []) hP hA Tryd.func66 rfl (by decide) rfl ok66 (by simp [labL, lab]) ?_
    conv => cbv
    simp (maxSteps := 10000000) only [nf]
    conv => cbv
    intro ρ R'' _ _ _
    exact .inl ⟨by omega, rfl⟩
  intro hle5 z5 pr5 q5 m5 hq5 hm5 hz5
  conv => cbv
  simp (maxSteps := 10000000) only [nt]
  conv => cbv
  have hy5 : z5 = [.int .u8 d72, .int .u8 d73, .int .u8 d74, .int .u8 d75] ++ z4.drop (0 + 4) := by rw [hz5, four (p := 72) (by omega), hd72, hd73, hd74, hd75]; rfl
  have hlz5 : z5.length = 8 := by rw [hy5]; simp [hlz4]
  refine ⟨[0, 1, 2, 3, 4, 5, 6, 7], [4, 7], mix hP, by kernel_rfl, ?_⟩
  conv => cbv
  refine ⟨_, ⟨[], rfl, rfl, fun i v h => nomatch h⟩, ?_⟩
  conv => cbv
  refine ⟨0, 4, rfl, rfl, by decide, by decide, ?_⟩
  intro aTAG nTAG cTAG hnTAG hcTAG haTAG
  obtain rfl : nTAG = 4 := by omega
  obtain rfl : cTAG = 8 := by omega
  obtain rfl : aTAG = some (ab.add 0) := by rw [haTAG]; rfl
  conv => cbv
  refine callP_in (fz := []) hP hA Tryd.func105 rfl (by decide) rfl ok105 (by simp [labL, lab]) ?_
  conv => cbv
  refine ⟨by decide, by rw [ofN_ hA]; decide, rfl, ?_⟩
  refine ld_row hA 0 (r := ⟨some ab, 8, 8, 5, 1, z5⟩) rfl rfl rfl (v := .int .u8 d75) (i := 3) (by show z5[3]? = _; rw [hy5]; rfl) ?_
  conv => cbv
  refine ⟨[0, 1, 2, 3, 4, 5, 6, 7, 8, 9, 10, 11, 12, 13, 14, 15, 16, 17, 18, 19, 20, 21, 22], [], mix hP, by kernel_rfl, ?_⟩
  conv => cbv
  refine ⟨by decide, by rw [ofN_ hA]; decide, rfl, ?_⟩
  refine ld_row hA 0 (r := ⟨some ab, 8, 8, 5, 1, z5⟩) rfl rfl rfl (v := .int .u8 d72) (i := 0) (by show z5[0]? = _; rw [hy5]; rfl) ?_
  conv => cbv
  refine ⟨by decide, by rw [ofN_ hA]; decide, rfl, ?_⟩
  refine ld_row hA 0 (r := ⟨some ab, 8, 8, 5, 1, z5⟩) rfl rfl rfl (v := .int .u8 d73) (i := 1) (by show z5[1]? = _; rw [hy5]; rfl) ?_
  conv => cbv
  refine ⟨by decide, ?_⟩
  refine ⟨by decide, by rw [ofN_ hA]; decide, rfl, ?_⟩
  refine ld_row hA 0 (r := ⟨some ab, 8, 8, 5, 1, z5⟩) rfl rfl rfl (v := .int .u8 d74) (i := 2) (by show z5[2]? = _; rw [hy5]; rfl) ?_
  conv => cbv
  refine ⟨by decide, ?_⟩
  refine ⟨by decide, by rw [ofN_ hA]; decide, rfl, ?_⟩
  refine ld_row hA 0 (r := ⟨some ab, 8, 8, 5, 1, z5⟩) rfl rfl rfl (v := .int .u8 d75) (i := 3) (by show z5[3]? = _; rw [hy5]; rfl) ?_
  conv => cbv
  refine ⟨by decide, ?_⟩
  have hv3 := u32v hA (D0 := d72) (D1 := d73) (D2 := d74) (D3 := d75) (mem4 hg72 hg73 hg74 hg75)
  obtain ⟨w3, hw3⟩ : ∃ w, w = lv [d72, d73, d74, d75] := ⟨_, rfl⟩
  rw [← hw3] at hv3
  simp (maxSteps := 10000000) only [hv3]
  conv => cbv
  refine ⟨1, _, a0, 66, rfl, rfl, by rw [fld__is hA]; rfl, by show 66 + 1 ≤ y4.length; rw [hly4]; decide, ?_⟩
  intro y5 hy5_
  have hly5 : y5.length = 68 := by rw [hy5_]; show (List.take 66 y4 ++ [_] ++ List.drop (66 + 1) y4).length = 68; simp [hly4]
  conv => cbv
  refine ⟨0, 4, rfl, rfl, by decide, by decide, ?_⟩
  intro aTAG nTAG cTAG hnTAG hcTAG haTAG
  obtain rfl : nTAG = 4 := by omega
  obtain rfl : cTAG = 8 := by omega
  obtain rfl : aTAG = some (ab.add 0) := by rw [haTAG]; rfl
  conv => cbv
  refine readE hP R ae au hE w2 ai (ab.add 0) ab 0 rfl N c 4 8 76 q5 hq5 pr5 xs z5 hb (by omega) hc (by omega) (by decide) (by decide) 8 8 (by decide) hlz5 _ ?_ ?_
  case refine_2 =>
    intro hlt6 zb6 pr6 q6 m6 t6 ad6 hzl6
    conv => cbv
    simp (maxSteps := 10000000) only [nf]
    conv => cbv
    refine callP_in (fz := []) hP hA Tryd.func66 rfl (by decide) rfl ok66 (by simp [labL, lab]) ?_
    conv => cbv
    simp (maxSteps := 10000000) only [nf]
    conv => cbv
    intro ρ R'' _ _ _
    exact .inl ⟨by omega, rfl⟩
  intro hle6 z6 pr6 q6 m6 hq6 hm6 hz6
  conv => cbv
  simp (maxSteps := 10000000) only [nt]
  conv => cbv
  have hy6 : z6 = [.int .u8 d76, .int .u8 d77, .int .u8 d78, .int .u8 d79] ++ z5.drop (0 + 4) := by rw [hz6, four (p := 76) (by omega), hd76, hd77, hd78, hd79]; rfl
  have hlz6 : z6.length = 8 := by rw [hy6]; simp [hlz5]
  refine ⟨[0, 1, 2, 3, 4, 5, 6, 7], [4, 7], mix hP, by kernel_rfl, ?_⟩
  conv => cbv
  refine ⟨_, ⟨[], rfl, rfl, fun i v h => nomatch h⟩, ?_⟩
  conv => cbv
  refine ⟨0, 4, rfl, rfl, by decide, by decide, ?_⟩
  intro aTAG nTAG cTAG hnTAG hcTAG haTAG
  obtain rfl : nTAG = 4 := by omega
  obtain rfl : cTAG = 8 := by omega
  obtain rfl : aTAG = some (ab.add 0) := by rw [haTAG]; rfl
  conv => cbv
  refine callP_in (fz := []) hP hA Tryd.func105 rfl (by decide) rfl ok105 (by simp [labL, lab]) ?_
  conv => cbv
  refine ⟨by decide, by rw [ofN_ hA]; decide, rfl, ?_⟩
  refine ld_row hA 0 (r := ⟨some ab, 8, 8, 5, 1, z6⟩) rfl rfl rfl (v := .int .u8 d79) (i := 3) (by show z6[3]? = _; rw [hy6]; rfl) ?_
  conv => cbv
  refine ⟨[0, 1, 2, 3, 4, 5, 6, 7, 8, 9, 10, 11, 12, 13, 14, 15, 16, 17, 18, 19, 20, 21, 22], [], mix hP, by kernel_rfl, ?_⟩
  conv => cbv
  refine ⟨by decide, by rw [ofN_ hA]; decide, rfl, ?_⟩
  refine ld_row hA 0 (r := ⟨some ab, 8, 8, 5, 1, z6⟩) rfl rfl rfl (v := .int .u8 d76) (i := 0) (by show z6[0]? = _; rw [hy6]; rfl) ?_
  conv => cbv
  refine ⟨by decide, by rw [ofN_ hA]; decide, rfl, ?_⟩
  refine ld_row hA 0 (r := ⟨some ab, 8, 8, 5, 1, z6⟩) rfl rfl rfl (v := .int .u8 d77) (i := 1) (by show z6[1]? = _; rw [hy6]; rfl) ?_
  conv => cbv
  refine ⟨by decide, ?_⟩
  refine ⟨by decide, by rw [ofN_ hA]; decide, rfl, ?_⟩
  refine ld_row hA 0 (r := ⟨some ab, 8, 8, 5, 1, z6⟩) rfl rfl rfl (v := .int .u8 d78) (i := 2) (by show z6[2]? = _; rw [hy6]; rfl) ?_
  conv => cbv
  refine ⟨by decide, ?_⟩
  refine ⟨by decide, by rw [ofN_ hA]; decide, rfl, ?_⟩
  refine ld_row hA 0 (r := ⟨some ab, 8, 8, 5, 1, z6⟩) rfl rfl rfl (v := .int .u8 d79) (i := 3) (by show z6[3]? = _; rw [hy6]; rfl) ?_
  conv => cbv
  refine ⟨by decide, ?_⟩
  have hv4 := u32v hA (D0 := d76) (D1 := d77) (D2 := d78) (D3 := d79) (mem4 hg76 hg77 hg78 hg79)
  obtain ⟨w4, hw4⟩ : ∃ w, w = lv [d76, d77, d78, d79] := ⟨_, rfl⟩
  rw [← hw4] at hv4
  simp (maxSteps := 10000000) only [hv4]
  conv => cbv
  refine ⟨1, _, a0, 67, rfl, rfl, by rw [fld__is hA]; rfl, by show 67 + 1 ≤ y5.length; rw [hly5]; decide, ?_⟩
  intro y6 hy6_
  have hly6 : y6.length = 68 := by rw [hy6_]; show (List.take 67 y5 ++ [_] ++ List.drop (67 + 1) y5).length = 68; simp [hly5]
  conv => cbv
  refine callP_in (fz := []) hP hA Tryd.func66 rfl (by decide) rfl ok66 (by simp [labL, lab]) ?_
  conv => cbv
  simp (maxSteps := 10000000) only [nt]
  conv => cbv
  obtain ⟨p0, p1, p2, p3, p4, p5, p6, p7, p8, p9, p10, p11, p12, p13, p14, p15, p16, p17, p18, p19, p20, p21, p22, p23, p24, p25, p26, p27, p28, p29, p30, p31, hP4⟩ := l32 (l := (xs.drop 4).take 32) (by simp; omega)
  obtain ⟨q0, q1, q2, q3, q4, q5, q6, q7, q8, q9, q10, q11, q12, q13, q14, q15, q16, q17, q18, q19, q20, q21, q22, q23, q24, q25, q26, q27, q28, q29, q30, q31, hP36⟩ := l32 (l := (xs.drop 36).take 32) (by simp; omega)
  have u1 := upd (zh := zh) (A := []) (k := 0) (m := 1) rfl rfl rfl hy1_
  have u2 := upd (m := 32) u1 rfl (by rw [ints_len]; simp; omega) hz2
  rw [hP4] at u2
  have u3 := upd (m := 32) u2 rfl (by rw [ints_len]; simp; omega) hz3
  rw [hP36] at u3
  have u4 := upd (m := 1) u3 rfl rfl hy4_
  have u5 := upd (m := 1) u4 rfl rfl hy5_
  have u6 := upd (m := 1) u5 rfl rfl hy6_
  rw [List.drop_of_length_le (by rw [hlzh]; decide)] at u6
  refine callP_in (fz := []) hP hA Tryd.func51 rfl (by decide) rfl ok51 (by simp [labL, lab]) ?_
  conv => cbv
  have e6 : y6 = [.int .i32 (cnv .i32 w1), .int .u8 p0, .int .u8 p1, .int .u8 p2, .int .u8 p3, .int .u8 p4, .int .u8 p5, .int .u8 p6, .int .u8 p7, .int .u8 p8, .int .u8 p9, .int .u8 p10, .int .u8 p11, .int .u8 p12, .int .u8 p13, .int .u8 p14, .int .u8 p15, .int .u8 p16, .int .u8 p17, .int .u8 p18, .int .u8 p19, .int .u8 p20, .int .u8 p21, .int .u8 p22, .int .u8 p23, .int .u8 p24, .int .u8 p25, .int .u8 p26, .int .u8 p27, .int .u8 p28, .int .u8 p29, .int .u8 p30, .int .u8 p31, .int .u8 q0, .int .u8 q1, .int .u8 q2, .int .u8 q3, .int .u8 q4, .int .u8 q5, .int .u8 q6, .int .u8 q7, .int .u8 q8, .int .u8 q9, .int .u8 q10, .int .u8 q11, .int .u8 q12, .int .u8 q13, .int .u8 q14, .int .u8 q15, .int .u8 q16, .int .u8 q17, .int .u8 q18, .int .u8 q19, .int .u8 q20, .int .u8 q21, .int .u8 q22, .int .u8 q23, .int .u8 q24, .int .u8 q25, .int .u8 q26, .int .u8 q27, .int .u8 q28, .int .u8 q29, .int .u8 q30, .int .u8 q31, .int .i64 w2, .int .u32 w3, .int .u32 w4] := by rw [u6]; rfl
  have f0 : (xs.drop 0).take 4 = [d0, d1, d2, d3] := by rw [four (p := 0) (by omega), hd0, hd1, hd2, hd3]
  have f68 : (xs.drop 68).take 4 = [d68, d69, d70, d71] := by rw [four (p := 68) (by omega), hd68, hd69, hd70, hd71]
  have f72 : (xs.drop 72).take 4 = [d72, d73, d74, d75] := by rw [four (p := 72) (by omega), hd72, hd73, hd74, hd75]
  have f76 : (xs.drop 76).take 4 = [d76, d77, d78, d79] := by rw [four (p := 76) (by omega), hd76, hd77, hd78, hd79]
  have hH2 : H = .int .i32 (cnv .i32 w1) :: (ints .u8 [p0, p1, p2, p3, p4, p5, p6, p7, p8, p9, p10, p11, p12, p13, p14, p15, p16, p17, p18, p19, p20, p21, p22, p23, p24, p25, p26, p27, p28, p29, p30, p31] ++ (ints .u8 [q0, q1, q2, q3, q4, q5, q6, q7, q8, q9, q10, q11, q12, q13, q14, q15, q16, q17, q18, q19, q20, q21, q22, q23, q24, q25, q26, q27, q28, q29, q30, q31] ++ [.int .u32 w2, .int .u32 w3, .int .u32 w4])) := by rw [hH, hdx, f0, f68, f72, f76, hP4, hP36, ← hw1, ← hw2, ← hw3, ← hw4, hd, cnv_ hA]
  refine ⟨[0, 1, 2, 3, 4, 5, 6, 7, 8, 9, 10, 11, 12, 13, 14, 15, 18, 19, 20, 21, 22, 23, 24, 25, 16, 17, 26, 27], [27], mix hP, by kernel_rfl, ?_⟩
  conv => cbv
  refine ld_rfld (fld__is hA) 1 rfl rfl 0 (v := .int .i32 (cnv .i32 w1)) (by show y6[0]? = _; rw [e6]; rfl) ?_
  conv => cbv
  refine ld_rpart (fld__is hA) 1 rfl rfl 1 32 (cs := ints .u8 [p0, p1, p2, p3, p4, p5, p6, p7, p8, p9, p10, p11, p12, p13, p14, p15, p16, p17, p18, p19, p20, p21, p22, p23, p24, p25, p26, p27, p28, p29, p30, p31]) rfl (by show List.take 32 (List.drop 1 y6) = _; rw [e6]; rfl) ?_
  conv => cbv
  refine ld_rpart (fld__is hA) 1 rfl rfl 33 32 (cs := ints .u8 [q0, q1, q2, q3, q4, q5, q6, q7, q8, q9, q10, q11, q12, q13, q14, q15, q16, q17, q18, q19, q20, q21, q22, q23, q24, q25, q26, q27, q28, q29, q30, q31]) rfl (by show List.take 32 (List.drop 33 y6) = _; rw [e6]; rfl) ?_
  conv => cbv
  refine ld_rpart (fld__is hA) 1 rfl rfl 65 1 (cs := [.int .i64 w2]) rfl (by show List.take 1 (List.drop 65 y6) = _; rw [e6]; rfl) ?_
  conv => cbv
  refine ld_rfld (fld__is hA) 1 rfl rfl 66 (v := .int .u32 w3) (by show y6[66]? = _; rw [e6]; rfl) ?_
  conv => cbv
  refine ld_rfld (fld__is hA) 1 rfl rfl 67 (v := .int .u32 w4) (by show y6[67]? = _; rw [e6]; rfl) ?_
  conv => cbv
  refine callP_in (fz := []) hP hA Tryd.func77 rfl (by decide) rfl ok77 (by simp [labL, lab]) ?_
  conv => cbv
  refine ⟨⟨⟨rfl, rfl, rfl, rfl, rfl, rfl, rfl, rfl, rfl, rfl, trivial⟩, .refl _⟩, ?_⟩
  conv => cbv
  simp (maxSteps := 10000000) only [ec3]
  conv => cbv
  intro ρ R'' _ _ _
  refine .inr ⟨by omega, ?_⟩
  rw [hH2]
  rfl
end Go.Proofs.YtnlpjppjhikooaaDoor.Vh
