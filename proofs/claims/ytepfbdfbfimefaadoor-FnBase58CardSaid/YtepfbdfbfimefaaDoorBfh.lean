/- The package: bytes in base 58, written. -/
import Derived.Test.YtepfbdfbfimefaaDoorBfg
import Derived.Test.YtepfbdfbfimefaaDoorSl
import Derived.Test.YtepfbdfbfimefaaDoorProg
import Derived.KernelRfl
-- merged
/- The types that some functions name, as the evaluator wants them. Printed by a program of my own (seatgen.py). -/
namespace Go.Proofs.YtepfbdfbfimefaaDoor.Tyeh
open Go Go.Se Go.Proofs

/-- int64 -/
def y2 : Ty := ⟨.int .i64, 1, false, .int .i64 0, 8⟩
theorem ty2 : tyOf Tryd.prog 2 = some y2 := by kernel_rfl
/-- int -/
def y3 : Ty := ⟨.int .i64, 1, false, .int .i64 0, 8⟩
theorem ty3 : tyOf Tryd.prog 3 = some y3 := by kernel_rfl
/-- bool -/
def y4 : Ty := ⟨.bool, 1, false, .bool false, 1⟩
theorem ty4 : tyOf Tryd.prog 4 = some y4 := by kernel_rfl
/-- uint8 -/
def y5 : Ty := ⟨.int .u8, 1, false, .int .u8 0, 1⟩
theorem ty5 : tyOf Tryd.prog 5 = some y5 := by kernel_rfl
/-- string -/
def y9 : Ty := ⟨.str, 1, false, .string ByteArray.empty, 16⟩
theorem ty9 : tyOf Tryd.prog 9 = some y9 := by kernel_rfl
/-- []uint8 -/
def y22 : Ty := ⟨.slc 5, 1, false, .slice none 0 0, 24⟩
theorem ty22 : tyOf Tryd.prog 22 = some y22 := by kernel_rfl
/-- uint64 -/
def y33 : Ty := ⟨.int .u64, 1, false, .int .u64 0, 8⟩
theorem ty33 : tyOf Tryd.prog 33 = some y33 := by kernel_rfl
/-- big.nat -/
def y48 : Ty := ⟨.slc 68, 1, false, .slice none 0 0, 24⟩
theorem ty48 : tyOf Tryd.prog 48 = some y48 := by kernel_rfl
/-- big.Int -/
def y50 : Ty := ⟨.stc [(0, 4), (1, 48)], 2, true, .agg #[.bool false, .slice none 0 0], 32⟩
theorem ty50 : tyOf Tryd.prog 50 = some y50 := by kernel_rfl
/-- float64 -/
def y52 : Ty := ⟨.other, 1, false, .float .f64 0, 8⟩
theorem ty52 : tyOf Tryd.prog 52 = some y52 := by kernel_rfl
/-- uint32 -/
def y68 : Ty := ⟨.int .u32, 1, false, .int .u32 0, 4⟩
theorem ty68 : tyOf Tryd.prog 68 = some y68 := by kernel_rfl

/-- function 12: pub-mintmark/pub/btcdaddress/base58.Encode -/
def tys12 : Nat → Option Ty := fun t => find [(50, y50), (22, y22), (5, y5), (3, y3), (52, y52), (2, y2), (9, y9)] t
theorem ok12 : TysOk Tryd.prog tys12 := tysOk_of ⟨ty50, ty22, ty5, ty3, ty52, ty2, ty9, trivial⟩

/-- function 22: (*pub-mintmark/pub/smallbig.Int).Sign -/
def tys22 : Nat → Option Ty := fun t => find [(50, y50), (4, y4), (48, y48), (68, y68), (3, y3)] t
theorem ok22 : TysOk Tryd.prog tys22 := tysOk_of ⟨ty50, ty4, ty48, ty68, ty3, trivial⟩

/-- function 25: (*pub-mintmark/pub/smallbig.Int).Int64 -/
def tys25 : Nat → Option Ty := fun t => find [(50, y50), (4, y4), (48, y48), (68, y68), (33, y33), (2, y2)] t
theorem ok25 : TysOk Tryd.prog tys25 := tysOk_of ⟨ty50, ty4, ty48, ty68, ty33, ty2, trivial⟩
end Go.Proofs.YtepfbdfbfimefaaDoor.Tyeh
set_option linter.unusedSimpArgs false
set_option linter.unusedVariables false
namespace Go.Proofs.YtepfbdfbfimefaaDoor.Bf
open Go Go.Se Go.Proofs Go.Proofs.YtepfbdfbfimefaaDoor.Co Go.Proofs.YtepfbdfbfimefaaDoor.Ht Go.Proofs.YtepfbdfbfimefaaDoor.Tyeh

theorem sb_mk' {xs : List Int} (h : ∀ x ∈ xs, 0 ≤ x ∧ x ≤ 255) : ∃ b : ByteArray, SB b xs := by
  obtain ⟨b, hb⟩ := bytes_of_ints (fun x hx => wf8 (h x hx))
  exact ⟨b, hb⟩

theorem zs0_rep (i : Nat) (t : List Int) : zs0 (List.replicate i 0 ++ t) = i + zs0 t := by
  induction i with
  | zero => simp
  | succ i ih => rw [List.replicate_succ, List.cons_append, zs0, if_pos rfl, ih]; omega

/-- As many as are turned round by now. -/
def rvp (l : List Int) (i : Nat) (ws : List Int) : Prop := ws.length = l.length ∧ ∀ j, j < l.length → ws[j]? = if j < i ∨ l.length - i ≤ j then l[l.length - 1 - j]? else l[j]?

theorem rvp_end {l ws : List Int} (h : rvp l (l.length / 2) ws) : ws = l.reverse := by
  apply List.ext_getElem?
  intro j
  by_cases hj : j < l.length
  · rw [h.2 j hj, List.getElem?_reverse hj]
    split
    · rfl
    · congr 1; omega
  · rw [List.getElem?_eq_none (by rw [h.1]; omega), List.getElem?_eq_none (by simp; omega)]

theorem rvp_step {l ws : List Int} {i : Nat} (h : rvp l i ws) (hi : i < l.length / 2) {x y : Int} (hx : ws[i]? = some x) (hy : ws[l.length - 1 - i]? = some y) : rvp l (i + 1) ((ws.set i y).set (l.length - 1 - i) x) := by
  refine ⟨by simp [h.1], fun j hj => ?_⟩
  have h1 := h.2 i (by omega)
  have h2 := h.2 (l.length - 1 - i) (by omega)
  rw [hx, if_neg (by omega)] at h1
  rw [hy, if_neg (by omega)] at h2
  rw [List.getElem?_set]
  by_cases e1 : l.length - 1 - i = j
  · rw [if_pos e1, if_pos (by simp [h.1]; omega), if_pos (by omega), h1]
    congr 1; omega
  · rw [if_neg e1, List.getElem?_set]
    by_cases e2 : i = j
    · rw [if_pos e2, if_pos (by rw [h.1]; omega), if_pos (by omega), h2]
      congr 1; omega
    · rw [if_neg e2, h.2 j hj]
      by_cases e3 : j < i ∨ l.length - i ≤ j
      · rw [if_pos e3, if_pos (by omega)]
      · rw [if_neg e3, if_neg (by omega)]

theorem lit58h : SB ⟨#[49,50,51,52,53,54,55,56,57,65,66,67,68,69,70,71,72,74,75,76,77,78,80,81,82,83,84,85,86,87,88,89,90,97,98,99,100,101,102,103,104,105,106,107,109,110,111,112,113,114,115,116,117,118,119,120,121,122]⟩ alph := rfl



structure Len1 where
  R : RO
  a1 : Option Addr
  n1 : Nat
  c1 : Nat
  a2 : Option Addr
  n2 : Nat
  c2 : Nat
  a : Option Addr
  n : Nat
  c : Nat
  zs : List Value

structure Len2 where
  m : Int
  a : Option Addr
  n : Nat
  c : Nat
  zs : List Value

structure Len3 where
  i : Int
  m : Int
  a : Option Addr
  n : Nat
  c : Nat
  zs : List Value

structure Len4 where
  i : Int
  zs : List Value

set_option maxRecDepth 100000 in
set_option maxHeartbeats 4000000 in
theorem encodeI {P : Program} (hP : P = Tryd.prog) (R : RO) (a : Option Addr) (n c : Nat) (xs : List Int) (h : RI R .u8 a n xs) (hc : n ≤ c) (hn : n ≤ 300) :
    RetP P 12 [.slice a n c] R fun _ r => ∃ s, r = .string s ∧ SB s (enc xs) := by
  subst hP
  have hl := h.len
  have hby := By.of_wf h.wf
  have hV : be xs < 256 ^ n := by rw [hl]; exact be_lt hby
  refine retP_vc (fz := []) Tryd.func12 rfl (by decide) rfl ok12 ?_
  intro P bin cmp cnv neg com bnot beq ofN toN at_ sub_ scmp cat sget ssz ssub elem fld_ hP hA
  conv => cbv
  have o := ofN_ hA n
  refine setBytesG hP R a n c (be xs) xs h hc (by omega) rfl ?_
  intro Rc aX nX cX hRc hX hcX
  conv => cbv
  obtain ⟨fr, fm, hfr, hfm, hm0, hm1⟩ := room hn
  refine raw_i2f rfl rfl (by rw [hP]; exact Tryd.underlying3) (by rw [hP]; exact Tryd.underlying52) ?_
  intro f1 hf1
  rw [o] at hf1
  conv => cbv
  refine raw_fmul rfl rfl rfl (by rw [hf1]; exact hfr) ?_
  conv => cbv
  refine raw_f2i rfl rfl (by rw [hP]; exact Tryd.underlying52) (by rw [hP]; exact Tryd.underlying3) hfm hm0 hm1 ?_
  conv => cbv
  have em : bin .add .i64 fm 1 = fm + 1 := add_i64 hA (by omega)
  refine ⟨by decide, by rw [em]; omega, by rw [em]; omega, by rw [em]; omega, ?_⟩
  intro aR nR cR zR hnR hcR hzR
  obtain rfl : nR = 0 := by omega
  have hzR0 : zR = [] := hzR
  conv => cbv
  obtain ⟨T0, hT0⟩ : ∃ T0, T0 = (dsL (be xs)).map ch := ⟨_, rfl⟩
  have hT0l : T0.length ≤ 600 := by
    rw [hT0, List.length_map]
    have := dsL_256 hV
    omega
  refine ⟨Len1, fun x => ⟨[(3, .p 0 0), (6, .p 1 0), (5, .v (.slice x.a x.n x.c)), (0, .v (.slice a n c))], x.R, [(1, ⟨50, [.v (.bool false), .v (.slice x.a2 x.n2 x.c2)]⟩), (0, ⟨50, [.v (.bool false), .v (.slice x.a1 x.n1 x.c1)]⟩)], 2, [⟨x.a, x.n, x.c, 5, 1, x.zs⟩]⟩,
    fun m x => ∃ (v : Nat) (ys : List Int), m = v ∧ R.le x.R ∧ RI x.R .u32 x.a1 x.n1 (cn v) ∧ x.n1 ≤ x.c1 ∧ v ≤ be xs ∧ x.zs = ints .u8 ys ∧ x.n = ys.length ∧ x.a.isSome = true ∧ ys ++ (dsL v).map ch = T0,
    ⟨be xs, ⟨Rc, aX, nX, cX, none, 0, 0, some aR, 0, cR, zR⟩, ⟨⟨rfl, rfl, rfl, rfl, trivial⟩, rfl, ⟨rfl, rfl, trivial⟩, rfl, .refl _⟩, be xs, [], rfl, hRc, hX, hcX, Nat.le_refl _, hzR0, rfl, rfl, by rw [hT0]; rfl⟩, ?_⟩
  rintro m ⟨R1, a1, n1, c1, a2, n2, c2, ar, nr, cr, zs⟩ ⟨v, ys, hm, hR1, hr1, hc1, hvV, hzs, hnr, har, hT⟩
  simp only at hR1 hr1 hc1 hzs hnr har
  have hysl : ys.length ≤ 600 := by
    have := congrArg List.length hT
    rw [List.length_append] at this
    omega
  have hn1 : n1 ≤ 300 := by
    rw [hr1.len]
    refine Nat.le_trans (cn_le (k := n) ?_) hn
    exact Nat.lt_of_le_of_lt hvV (Nat.lt_of_lt_of_le hV (Nat.pow_le_pow_left (by decide) n))
  have o1 := ofN_ hA n1
  conv => cbv
  refine callP_in (fz := []) hP hA Tryd.func22 rfl (by decide) rfl ok22 (by simp [labL, lab]) ?_
  conv => cbv
  by_cases hv : v = 0
  · have hn10 : n1 = 0 := by rw [hr1.len, hv, cn0]; rfl
    rw [hv, dsL0] at hT
    have hyT : ys = T0 := by rw [← hT]; simp
    refine br_t (by rw [o1, cmp_eql hA]; simp; omega) ?_
    conv => cbv
    refine br_f (by rw [cmp_gtr hA]; decide) ?_
    conv => cbv
    have hb1 := h.le hR1
    refine ⟨Len2, fun x => ⟨[(66, .v (.int .i64 x.m)), (65, .v (.int .i64 (ofN n))), (64, .v (.slice a n c)), (5, .v (.slice x.a x.n x.c))], R1, [], 2, [⟨x.a, x.n, x.c, 5, 1, x.zs⟩]⟩,
      fun m x => ∃ (i : Nat) (ys : List Int), x.m = i ∧ i ≤ n ∧ m = n - i ∧ xs = List.replicate i 0 ++ xs.drop i ∧ x.zs = ints .u8 ys ∧ x.n = ys.length ∧ x.a.isSome = true ∧ ys = T0 ++ List.replicate i 49,
      ⟨n, ⟨0, ar, nr, cr, zs⟩, ⟨⟨rfl, rfl, rfl, rfl, trivial⟩, rfl, trivial, rfl, .refl _⟩, 0, ys, rfl, Nat.zero_le _, rfl, rfl, hzs, hnr, har, by rw [hyT]; simp⟩, ?_⟩
    rintro m2 ⟨ii, ar2, nr2, cr2, zs2⟩ ⟨i, ys2, hi, hin, hm2, hxi, hzs2, hnr2, har2, hys2⟩
    simp only at hi hzs2 hnr2 har2
    have hysl2 : ys2.length ≤ 900 := by rw [hys2, List.length_append, List.length_replicate]; omega
    conv => cbv
    by_cases hlt : i < n
    case neg =>
      have hzi : zs0 xs = i := by
        have h1 := zs0_rep i (xs.drop i)
        rw [← hxi, List.drop_of_length_le (by omega)] at h1
        exact h1
      refine br_f (by rw [o, cmp_lss hA]; simp; omega) ?_
      conv => cbv
      obtain ⟨A, rfl⟩ := Option.isSome_iff_exists.1 har2
      have onr := ofN_ hA nr2
      have hfin : ys2.reverse = enc xs := by rw [hys2, enc, hzi, List.reverse_append, List.reverse_replicate, hT0]
      have eh : bin .quo .i64 (ofN nr2) 2 = ((nr2 / 2 : Nat) : Int) := by rw [onr, quo_i64 hA (by omega) (by omega) (by decide)]; omega
      have hy2b : ∀ x ∈ ys2, 0 ≤ x ∧ x ≤ 255 := by
        intro x hx
        rw [hys2] at hx
        rcases List.mem_append.1 hx with hx | hx
        · rw [hT0] at hx
          obtain ⟨d, hd, rfl⟩ := List.mem_map.1 hx
          have := ch_bd d (dsL_lt _ d hd)
          omega
        · rw [List.eq_of_mem_replicate hx]; decide
      clear hfr hfm hm0 hm1 hf1 em hcR hnR hzR hzR0 hT hzs hnr hysl hT0 hyT
      refine ⟨Len4, fun x => ⟨[(13, .v (.int .i64 x.i)), (12, .v (.int .i64 (ofN nr2))), (5, .v (.slice (some A) nr2 cr2))], R1, [], 2, [⟨some A, nr2, cr2, 5, 1, x.zs⟩]⟩,
        fun m x => ∃ (k : Nat) (ws : List Int), x.i = k ∧ k ≤ nr2 / 2 ∧ m = nr2 / 2 - k ∧ x.zs = ints .u8 ws ∧ rvp ys2 k ws,
        ⟨nr2 / 2, ⟨0, zs2⟩, ⟨⟨rfl, rfl, rfl, trivial⟩, rfl, trivial, rfl, .refl _⟩, 0, ys2, rfl, Nat.zero_le _, rfl, hzs2, rfl, fun j hj => by rw [if_neg (by omega)]⟩, ?_⟩
      rintro m4 ⟨kk, zw⟩ ⟨k, ws, hk, hk2, hm4, hzw, hrv⟩
      simp only at hk hzw
      conv => cbv
      refine ⟨by decide, ?_⟩
      by_cases hkl : k < nr2 / 2
      case neg =>
        refine br_f (by rw [eh, cmp_lss hA]; simp; omega) ?_
        conv => cbv
        obtain rfl : k = ys2.length / 2 := by omega
        have hwr := rvp_end hrv
        obtain ⟨bs, hbs⟩ := sb_mk' (xs := ws) (fun y hy => hy2b y (by rw [hwr] at hy; exact List.mem_reverse.1 hy))
        refine ⟨nr2, zw, bs, src_row (r := ⟨some A, nr2, cr2, 5, 1, zw⟩) (List.mem_cons_self ..) (fun _ => rfl) (by show zw.length = _; rw [hzw, ints_len, hrv.1, hnr2, Nat.mul_one]) (by show ∀ v ∈ zw, _; rw [hzw]; exact ints_one _ _), by rw [hzw]; exact hbs.symm, ?_⟩
        conv => cbv
        intro ρ R'' _ _ _
        exact ⟨bs, rfl, by rw [← hfin, ← hwr]; exact hbs⟩
      refine br_t (by rw [eh, cmp_lss hA]; simp; omega) ?_
      have hkL : k < ys2.length := by omega
      have er : bin .sub .i64 (bin .sub .i64 (ofN nr2) 1) kk = ((ys2.length - 1 - k : Nat) : Int) := by
        have e1 : bin .sub .i64 (ofN nr2) 1 = (nr2 : Int) - 1 := by rw [onr]; exact sub_i64 hA (by omega)
        rw [e1, hk, sub_i64 hA (by omega)]
        omega
      obtain ⟨x, hx⟩ : ∃ x, ws[k]? = some x := ⟨_, List.getElem?_eq_getElem (by rw [hrv.1]; exact hkL)⟩
      obtain ⟨y, hy⟩ : ∃ y, ws[ys2.length - 1 - k]? = some y := ⟨_, List.getElem?_eq_getElem (by rw [hrv.1]; omega)⟩
      have hzl : zw.length = ys2.length := by rw [hzw, ints_len, hrv.1]
      conv => cbv
      refine ⟨[0, 1, 2, 3, 4, 5, 6, 7, 8, 9, 10, 11, 12, 13, 14, 15, 16, 17, 18, 19, 20, 21], [19, 21, 4, 6, 20], mix hP, by decide +kernel, ?_⟩
      conv => cbv
      refine ⟨by rw [er]; omega, by rw [er, onr]; omega, rfl, ?_⟩
      refine ld_row hA 0 (r := ⟨some A, nr2, cr2, 5, 1, zw⟩) rfl rfl rfl (v := .int .u8 y) (by show zw[_]? = _; rw [er, hzw, ints, List.getElem?_map, Int.toNat_natCast, hy]; rfl) ?_
      conv => cbv
      refine ⟨by omega, by rw [onr]; omega, rfl, ?_⟩
      refine ld_row hA 0 (r := ⟨some A, nr2, cr2, 5, 1, zw⟩) rfl rfl rfl (v := .int .u8 x) (by show zw[_]? = _; rw [hk, hzw, ints, List.getElem?_map, Int.toNat_natCast, hx]; rfl) ?_
      conv => cbv
      refine ⟨by omega, by rw [onr]; omega, rfl, ?_⟩
      refine ⟨0, _, A, k, rfl, rfl, by rw [elem_is hA, hk]; show A.add (((k : Nat) : Int).toNat * 1) = _; rw [Nat.mul_one, Int.toNat_natCast], by show k + 1 ≤ zw.length; omega, ?_⟩
      intro z1 hz1
      have hz1' : z1 = ints .u8 (ws.set k y) := by
        rw [hz1, hzw]
        exact ints_set _ _ _ _ (by rw [hrv.1]; exact hkL)
      conv => cbv
      refine ⟨by rw [er]; omega, by rw [er, onr]; omega, rfl, ?_⟩
      refine ⟨0, _, A, ys2.length - 1 - k, rfl, rfl, by rw [elem_is hA, er]; show A.add (((ys2.length - 1 - k : Nat) : Int).toNat * 1) = _; rw [Nat.mul_one, Int.toNat_natCast], by show ys2.length - 1 - k + 1 ≤ z1.length; rw [hz1', ints_len, List.length_set, hrv.1]; omega, ?_⟩
      intro z2 hz2
      have hz2' : z2 = ints .u8 ((ws.set k y).set (ys2.length - 1 - k) x) := by
        rw [hz2, hz1']
        exact ints_set _ _ _ _ (by rw [List.length_set, hrv.1]; omega)
      conv => cbv
      exact ⟨nr2 / 2 - (k + 1), ⟨bin .add .i64 kk 1, z2⟩, by omega, ⟨⟨rfl, rfl, rfl, trivial⟩, rfl, trivial, rfl, .refl _⟩, k + 1, _, by show bin .add .i64 kk 1 = _; rw [hk, add_i64 hA (by omega)]; rfl, by omega, rfl, hz2', rvp_step hrv (by omega) hx hy⟩
    refine br_t (by rw [o, cmp_lss hA]; simp; omega) ?_
    conv => cbv
    refine ix_ri hb1 o i hi hlt ?_
    refine ld_u8 hA hb1 (by omega) (by omega) ?_
    intro d hd hd0 hd1
    have hd' : xs[i]? = some d := by rw [getD_get (by omega), hd]; congr 2; omega
    conv => cbv
    by_cases hz : d = 0
    case neg =>
      have hzi : zs0 xs = i := by
        have h1 := zs0_rep i (xs.drop i)
        rw [← hxi, drop_get hd', zs0, if_neg hz] at h1
        exact h1
      refine br_t (by rw [cmp_neq hA]; simpa using hz) ?_
      conv => cbv
      obtain ⟨A, rfl⟩ := Option.isSome_iff_exists.1 har2
      have onr := ofN_ hA nr2
      have hfin : ys2.reverse = enc xs := by rw [hys2, enc, hzi, List.reverse_append, List.reverse_replicate, hT0]
      have eh : bin .quo .i64 (ofN nr2) 2 = ((nr2 / 2 : Nat) : Int) := by rw [onr, quo_i64 hA (by omega) (by omega) (by decide)]; omega
      have hy2b : ∀ x ∈ ys2, 0 ≤ x ∧ x ≤ 255 := by
        intro x hx
        rw [hys2] at hx
        rcases List.mem_append.1 hx with hx | hx
        · rw [hT0] at hx
          obtain ⟨d, hd, rfl⟩ := List.mem_map.1 hx
          have := ch_bd d (dsL_lt _ d hd)
          omega
        · rw [List.eq_of_mem_replicate hx]; decide
      clear hfr hfm hm0 hm1 hf1 em hcR hnR hzR hzR0 hT hzs hnr hysl hT0 hyT
      refine ⟨Len4, fun x => ⟨[(13, .v (.int .i64 x.i)), (12, .v (.int .i64 (ofN nr2))), (5, .v (.slice (some A) nr2 cr2))], R1, [], 2, [⟨some A, nr2, cr2, 5, 1, x.zs⟩]⟩,
        fun m x => ∃ (k : Nat) (ws : List Int), x.i = k ∧ k ≤ nr2 / 2 ∧ m = nr2 / 2 - k ∧ x.zs = ints .u8 ws ∧ rvp ys2 k ws,
        ⟨nr2 / 2, ⟨0, zs2⟩, ⟨⟨rfl, rfl, rfl, trivial⟩, rfl, trivial, rfl, .refl _⟩, 0, ys2, rfl, Nat.zero_le _, rfl, hzs2, rfl, fun j hj => by rw [if_neg (by omega)]⟩, ?_⟩
      rintro m4 ⟨kk, zw⟩ ⟨k, ws, hk, hk2, hm4, hzw, hrv⟩
      simp only at hk hzw
      conv => cbv
      refine ⟨by decide, ?_⟩
      by_cases hkl : k < nr2 / 2
      case neg =>
        refine br_f (by rw [eh, cmp_lss hA]; simp; omega) ?_
        conv => cbv
        obtain rfl : k = ys2.length / 2 := by omega
        have hwr := rvp_end hrv
        obtain ⟨bs, hbs⟩ := sb_mk' (xs := ws) (fun y hy => hy2b y (by rw [hwr] at hy; exact List.mem_reverse.1 hy))
        refine ⟨nr2, zw, bs, src_row (r := ⟨some A, nr2, cr2, 5, 1, zw⟩) (List.mem_cons_self ..) (fun _ => rfl) (by show zw.length = _; rw [hzw, ints_len, hrv.1, hnr2, Nat.mul_one]) (by show ∀ v ∈ zw, _; rw [hzw]; exact ints_one _ _), by rw [hzw]; exact hbs.symm, ?_⟩
        conv => cbv
        intro ρ R'' _ _ _
        exact ⟨bs, rfl, by rw [← hfin, ← hwr]; exact hbs⟩
      refine br_t (by rw [eh, cmp_lss hA]; simp; omega) ?_
      have hkL : k < ys2.length := by omega
      have er : bin .sub .i64 (bin .sub .i64 (ofN nr2) 1) kk = ((ys2.length - 1 - k : Nat) : Int) := by
        have e1 : bin .sub .i64 (ofN nr2) 1 = (nr2 : Int) - 1 := by rw [onr]; exact sub_i64 hA (by omega)
        rw [e1, hk, sub_i64 hA (by omega)]
        omega
      obtain ⟨x, hx⟩ : ∃ x, ws[k]? = some x := ⟨_, List.getElem?_eq_getElem (by rw [hrv.1]; exact hkL)⟩
      obtain ⟨y, hy⟩ : ∃ y, ws[ys2.length - 1 - k]? = some y := ⟨_, List.getElem?_eq_getElem (by rw [hrv.1]; omega)⟩
      have hzl : zw.length = ys2.length := by rw [hzw, ints_len, hrv.1]
      conv => cbv
      refine ⟨[0, 1, 2, 3, 4, 5, 6, 7, 8, 9, 10, 11, 12, 13, 14, 15, 16, 17, 18, 19, 20, 21], [19, 21, 4, 6, 20], mix hP, by decide +kernel, ?_⟩
      conv => cbv
      refine ⟨by rw [er]; omega, by rw [er, onr]; omega, rfl, ?_⟩
      refine ld_row hA 0 (r := ⟨some A, nr2, cr2, 5, 1, zw⟩) rfl rfl rfl (v := .int .u8 y) (by show zw[_]? = _; rw [er, hzw, ints, List.getElem?_map, Int.toNat_natCast, hy]; rfl) ?_
      conv => cbv
      refine ⟨by omega, by rw [onr]; omega, rfl, ?_⟩
      refine ld_row hA 0 (r := ⟨some A, nr2, cr2, 5, 1, zw⟩) rfl rfl rfl (v := .int .u8 x) (by show zw[_]? = _; rw [hk, hzw, ints, List.getElem?_map, Int.toNat_natCast, hx]; rfl) ?_
      conv => cbv
      refine ⟨by omega, by rw [onr]; omega, rfl, ?_⟩
      refine ⟨0, _, A, k, rfl, rfl, by rw [elem_is hA, hk]; show A.add (((k : Nat) : Int).toNat * 1) = _; rw [Nat.mul_one, Int.toNat_natCast], by show k + 1 ≤ zw.length; omega, ?_⟩
      intro z1 hz1
      have hz1' : z1 = ints .u8 (ws.set k y) := by
        rw [hz1, hzw]
        exact ints_set _ _ _ _ (by rw [hrv.1]; exact hkL)
      conv => cbv
      refine ⟨by rw [er]; omega, by rw [er, onr]; omega, rfl, ?_⟩
      refine ⟨0, _, A, ys2.length - 1 - k, rfl, rfl, by rw [elem_is hA, er]; show A.add (((ys2.length - 1 - k : Nat) : Int).toNat * 1) = _; rw [Nat.mul_one, Int.toNat_natCast], by show ys2.length - 1 - k + 1 ≤ z1.length; rw [hz1', ints_len, List.length_set, hrv.1]; omega, ?_⟩
      intro z2 hz2
      have hz2' : z2 = ints .u8 ((ws.set k y).set (ys2.length - 1 - k) x) := by
        rw [hz2, hz1']
        exact ints_set _ _ _ _ (by rw [List.length_set, hrv.1]; omega)
      conv => cbv
      exact ⟨nr2 / 2 - (k + 1), ⟨bin .add .i64 kk 1, z2⟩, by omega, ⟨⟨rfl, rfl, rfl, trivial⟩, rfl, trivial, rfl, .refl _⟩, k + 1, _, by show bin .add .i64 kk 1 = _; rw [hk, add_i64 hA (by omega)]; rfl, by omega, rfl, hz2', rvp_step hrv (by omega) hx hy⟩
    refine br_f (by rw [cmp_neq hA]; simpa using hz) ?_
    conv => cbv
    refine ⟨nr2, zs2, _, _, _, 1, [.int .u8 49], .row 0 ⟨ar2, nr2, cr2, 5, 1, zs2⟩ rfl rfl rfl, .refl _, .own _ _ _ _ _ _ rfl rfl rfl (by simp [Value.oneCell']), by omega, by omega, ?_⟩
    intro a' n' c' zs' hn' hz' hs'
    conv => cbv
    refine ⟨n - (i + 1), ⟨bin .add .i64 ii 1, a', n', c', zs'⟩, by omega, ⟨⟨rfl, rfl, rfl, rfl, trivial⟩, rfl, trivial, rfl, .refl _⟩, i + 1, ys2 ++ [49], by show bin .add .i64 ii 1 = _; rw [hi, add_i64 hA (by omega)]; rfl, by omega, rfl, ?_, ?_, ?_, hs' (by omega), ?_⟩
    · have h1 : List.replicate (i + 1) (0 : Int) = List.replicate i 0 ++ [0] := List.replicate_succ' ..
      rw [h1, List.append_assoc]
      have h2 := drop_get hd'
      rw [hz] at h2
      rw [List.singleton_append, ← h2]
      exact hxi
    · show zs' = _
      rw [hz', hzs2, ← ints_app]
      rfl
    · show n' = _
      rw [hn', hnr2, List.length_append]
      rfl
    · rw [hys2, List.append_assoc]
      congr 1
      exact (List.replicate_succ' ..).symm
  have hn10 : n1 ≠ 0 := by
    rw [hr1.len]
    exact fun e => hv (cn_nil.1 (List.eq_nil_of_length_eq_zero e))
  refine br_f (by rw [o1, cmp_eql hA]; simp; omega) ?_
  conv => cbv
  refine br_t (by rw [cmp_gtr hA]; decide) ?_
  conv => cbv
  refine (bigRadixP hP R1 10 10 rfl (by decide) (by decide) 430804206899405824 rfl).callP rfl ?_
  rintro R2 yv hR2 hyv
  conv => cbv
  refine divModC hP R2 _ yv v 430804206899405824 a1 n1 c1 (hr1.le hR2) hc1 (by omega) hyv (by decide) (by decide) a2 n2 c2 ?_
  intro R3 q1 qn qc q2 rn rc b3 hR3 hq hqc hr hrc
  have oq := ofN_ hA qn
  obtain ⟨w0, hw0⟩ : ∃ w0, w0 = v % 430804206899405824 := ⟨_, rfl⟩
  have hw0l : w0 < 430804206899405824 := by rw [hw0]; exact Nat.mod_lt _ (by decide)
  obtain ⟨v1, hv1⟩ : ∃ v1, v1 = v / 430804206899405824 := ⟨_, rfl⟩
  rw [← hw0] at hr
  rw [← hv1] at hq
  have hrn : rn ≤ 10000 := by
    rw [hr.len]
    exact Nat.le_trans (cn_le (k := 2) (by omega)) (by decide)
  have h10 : (58 : Nat) ^ 10 = 430804206899405824 := by decide
  have hR13 := RO.le_trans hR1 (RO.le_trans hR2 hR3)
  conv => cbv
  refine callP_in (fz := []) hP hA Tryd.func22 rfl (by decide) rfl ok22 (by simp [labL, lab]) ?_
  conv => cbv
  by_cases hv10 : v1 = 0
  · have hqn : qn = 0 := by rw [hq.len, hv10, cn0]; rfl
    refine br_t (by rw [oq, cmp_eql hA]; simp; omega) ?_
    conv => cbv
    refine br_t (by rw [cmp_eql hA]; decide) ?_
    conv => cbv
    refine callP_in (fz := []) hP hA Tryd.func25 rfl (by decide) rfl ok25 (by simp [labL, lab]) ?_
    conv => cbv
    refine (low64P hP R3 q2 rn rc (cn w0) hr (by omega)).callQ rfl ?_
    rintro _ ⟨w, rfl, hw⟩
    rw [nv_cn, Nat.mod_eq_of_lt (by omega)] at hw
    conv => cbv
    have emi : cnv .i64 w = (w0 : Int) := by rw [hw]; exact cnv_i64 hA (by omega)
    obtain ⟨mi0, hmi0⟩ : ∃ mi0, mi0 = cnv .i64 w := ⟨_, rfl⟩
    rw [← hmi0] at emi
    simp (maxSteps := 10000000) only [← hmi0]
    have hvw : v = w0 := by omega
    refine ⟨Len2, fun x => ⟨[(7, .v (.int .i64 x.m)), (5, .v (.slice x.a x.n x.c)), (3, .p 0 0), (6, .p 1 0), (0, .v (.slice a n c))], R3, [(1, ⟨50, [.v (.bool false), .v (.slice q2 rn rc)]⟩), (0, ⟨50, [.v (.bool false), .v (.slice q1 qn qc)]⟩)], 3, [⟨x.a, x.n, x.c, 5, 1, x.zs⟩]⟩,
      fun m x => ∃ (u : Nat) (ys : List Int), x.m = u ∧ m = u ∧ u < 430804206899405824 ∧ x.zs = ints .u8 ys ∧ x.n = ys.length ∧ x.a.isSome = true ∧ ys ++ (dsL u).map ch = T0,
      ⟨w0, ⟨mi0, ar, nr, cr, zs⟩, ⟨⟨rfl, rfl, rfl, rfl, rfl, trivial⟩, rfl, ⟨rfl, rfl, trivial⟩, rfl, .refl _⟩, w0, ys, emi, rfl, hw0l, hzs, hnr, har, by rw [← hvw]; exact hT⟩, ?_⟩
    rintro m3 ⟨mi, ar2, nr2, cr2, zs2⟩ ⟨u, ys2, hmi, hm3, hul, hzs2, hnr2, har2, hT2⟩
    simp only at hmi hzs2 hnr2 har2
    have hysl2 : ys2.length ≤ 600 := by
      have := congrArg List.length hT2
      rw [List.length_append] at this
      omega
    conv => cbv
    by_cases hu : u = 0
    · refine br_f (by rw [cmp_gtr hA]; simp; omega) ?_
      rw [hu, dsL0] at hT2
      conv => cbv
      exact ⟨0, ⟨R3, q1, qn, qc, q2, rn, rc, ar2, nr2, cr2, zs2⟩, by omega, ⟨⟨rfl, rfl, rfl, rfl, trivial⟩, rfl, ⟨rfl, rfl, trivial⟩, rfl, .refl _⟩, 0, ys2, rfl, hR13, by rw [← hv10]; exact hq, hqc, Nat.zero_le _, hzs2, hnr2, har2, by rw [dsL0]; exact hT2⟩
    refine br_t (by rw [cmp_gtr hA]; simp; omega) ?_
    conv => cbv
    have erm : bin .rem .i64 mi 58 = ((u % 58 : Nat) : Int) := by rw [hmi, rem_i64 hA (by omega)]; omega
    have eqm : bin .quo .i64 mi 58 = ((u / 58 : Nat) : Int) := by rw [hmi, quo_i64 hA (by omega) (by omega) (by decide)]; omega
    have hd58 : u % 58 < 58 := Nat.mod_lt _ (by decide)
    refine ⟨by decide, ?_⟩
    have hget : sget ⟨#[49,50,51,52,53,54,55,56,57,65,66,67,68,69,70,71,72,74,75,76,77,78,80,81,82,83,84,85,86,87,88,89,90,97,98,99,100,101,102,103,104,105,106,107,109,110,111,112,113,114,115,116,117,118,119,120,121,122]⟩ (bin .rem .i64 mi 58) = ch (u % 58) := sb_get hA lit58h (u % 58) erm (alph_get hd58)
    refine ⟨by rw [erm]; exact ⟨by omega, by show _ < (58 : Int); omega⟩, ?_⟩
    obtain ⟨cg, hcg⟩ : ∃ cg, cg = sget ⟨#[49,50,51,52,53,54,55,56,57,65,66,67,68,69,70,71,72,74,75,76,77,78,80,81,82,83,84,85,86,87,88,89,90,97,98,99,100,101,102,103,104,105,106,107,109,110,111,112,113,114,115,116,117,118,119,120,121,122]⟩ (bin .rem .i64 mi 58) := ⟨_, rfl⟩
    rw [← hcg] at hget
    refine ⟨nr2, zs2, _, _, _, 1, [.int .u8 cg], .row 0 ⟨ar2, nr2, cr2, 5, 1, zs2⟩ rfl rfl rfl, .refl _, .own _ _ _ _ _ _ rfl (by rw [hcg]; rfl) rfl (by simp [Value.oneCell']), by omega, by omega, ?_⟩
    intro a' n' c' zs' hn' hz' hs'
    have hz2 : zs' = ints .u8 (ys2 ++ [ch (u % 58)]) := by rw [hz', hzs2, hget, ← ints_app]; rfl
    conv => cbv
    refine ⟨by decide, ?_⟩
    refine ⟨u / 58, ⟨bin .quo .i64 mi 58, a', n', c', zs'⟩, by omega, ⟨⟨rfl, rfl, rfl, rfl, rfl, trivial⟩, rfl, ⟨rfl, rfl, trivial⟩, rfl, .refl _⟩, u / 58, ys2 ++ [ch (u % 58)], eqm, rfl, by omega, hz2, by show n' = _; rw [hn', hnr2, List.length_append]; rfl, hs' (by omega), ?_⟩
    rw [dsLS hu, List.map_cons] at hT2
    rw [List.append_assoc]
    exact hT2
  have hqn : qn ≠ 0 := by
    rw [hq.len]
    exact fun e => hv10 (cn_nil.1 (List.eq_nil_of_length_eq_zero e))
  refine br_f (by rw [oq, cmp_eql hA]; simp; omega) ?_
  conv => cbv
  refine br_f (by rw [cmp_eql hA]; decide) ?_
  conv => cbv
  refine callP_in (fz := []) hP hA Tryd.func25 rfl (by decide) rfl ok25 (by simp [labL, lab]) ?_
  conv => cbv
  refine (low64P hP R3 q2 rn rc (cn w0) hr (by omega)).callQ rfl ?_
  rintro _ ⟨w, rfl, hw⟩
  rw [nv_cn, Nat.mod_eq_of_lt (by omega)] at hw
  conv => cbv
  have emi : cnv .i64 w = (w0 : Int) := by rw [hw]; exact cnv_i64 hA (by omega)
  obtain ⟨mi0, hmi0⟩ : ∃ mi0, mi0 = cnv .i64 w := ⟨_, rfl⟩
  rw [← hmi0] at emi
  simp (maxSteps := 10000000) only [← hmi0]
  have hbig := dsL_big (v := v) (by rw [h10, ← hv1]; exact hv10)
  rw [h10, ← hw0, ← hv1] at hbig
  obtain ⟨T1, hT1⟩ : ∃ T1, T1 = ys ++ (dsN 10 w0).map ch := ⟨_, rfl⟩
  have hT10 : T1 ++ (dsL v1).map ch = T0 := by rw [hT1, ← hT, hbig, List.map_append, List.append_assoc]
  have hT1l : T1.length ≤ 600 := by
    have := congrArg List.length hT10
    rw [List.length_append] at this
    omega
  refine ⟨Len3, fun x => ⟨[(9, .v (.int .i64 x.i)), (8, .v (.int .i64 x.m)), (5, .v (.slice x.a x.n x.c)), (3, .p 0 0), (6, .p 1 0), (0, .v (.slice a n c))], R3, [(1, ⟨50, [.v (.bool false), .v (.slice q2 rn rc)]⟩), (0, ⟨50, [.v (.bool false), .v (.slice q1 qn qc)]⟩)], 3, [⟨x.a, x.n, x.c, 5, 1, x.zs⟩]⟩,
    fun m x => ∃ (i u : Nat) (ys : List Int), x.i = i ∧ i ≤ 10 ∧ m = 10 - i ∧ x.m = u ∧ u < 430804206899405824 ∧ x.zs = ints .u8 ys ∧ x.n = ys.length ∧ x.a.isSome = true ∧ ys ++ (dsN (10 - i) u).map ch = T1,
    ⟨10, ⟨0, mi0, ar, nr, cr, zs⟩, ⟨⟨rfl, rfl, rfl, rfl, rfl, rfl, trivial⟩, rfl, ⟨rfl, rfl, trivial⟩, rfl, .refl _⟩, 0, w0, ys, rfl, by decide, rfl, emi, hw0l, hzs, hnr, har, hT1.symm⟩, ?_⟩
  rintro m3 ⟨ii, mi, ar2, nr2, cr2, zs2⟩ ⟨i, u, ys2, hi, hi10, hm3, hmi, hul, hzs2, hnr2, har2, hT2⟩
  simp only at hi hmi hzs2 hnr2 har2
  have hysl2 : ys2.length ≤ 600 := by
    have := congrArg List.length hT2
    rw [List.length_append] at this
    omega
  conv => cbv
  by_cases hi9 : i < 10
  case neg =>
    refine br_f (by rw [cmp_lss hA]; simp; omega) ?_
    obtain rfl : i = 10 := by omega
    conv => cbv
    exact ⟨v1, ⟨R3, q1, qn, qc, q2, rn, rc, ar2, nr2, cr2, zs2⟩, by omega, ⟨⟨rfl, rfl, rfl, rfl, trivial⟩, rfl, ⟨rfl, rfl, trivial⟩, rfl, .refl _⟩, v1, ys2, rfl, hR13, hq, hqc, by omega, hzs2, hnr2, har2, by rw [← hT10, ← hT2]; simp [dsN]⟩
  refine br_t (by rw [cmp_lss hA]; simp; omega) ?_
  conv => cbv
  have erm : bin .rem .i64 mi 58 = ((u % 58 : Nat) : Int) := by rw [hmi, rem_i64 hA (by omega)]; omega
  have eqm : bin .quo .i64 mi 58 = ((u / 58 : Nat) : Int) := by rw [hmi, quo_i64 hA (by omega) (by omega) (by decide)]; omega
  have hd58 : u % 58 < 58 := Nat.mod_lt _ (by decide)
  refine ⟨by decide, ?_⟩
  have hget : sget ⟨#[49,50,51,52,53,54,55,56,57,65,66,67,68,69,70,71,72,74,75,76,77,78,80,81,82,83,84,85,86,87,88,89,90,97,98,99,100,101,102,103,104,105,106,107,109,110,111,112,113,114,115,116,117,118,119,120,121,122]⟩ (bin .rem .i64 mi 58) = ch (u % 58) := sb_get hA lit58h (u % 58) erm (alph_get hd58)
  refine ⟨by rw [erm]; exact ⟨by omega, by show _ < (58 : Int); omega⟩, ?_⟩
  obtain ⟨cg, hcg⟩ : ∃ cg, cg = sget ⟨#[49,50,51,52,53,54,55,56,57,65,66,67,68,69,70,71,72,74,75,76,77,78,80,81,82,83,84,85,86,87,88,89,90,97,98,99,100,101,102,103,104,105,106,107,109,110,111,112,113,114,115,116,117,118,119,120,121,122]⟩ (bin .rem .i64 mi 58) := ⟨_, rfl⟩
  rw [← hcg] at hget
  refine ⟨nr2, zs2, _, _, _, 1, [.int .u8 cg], .row 0 ⟨ar2, nr2, cr2, 5, 1, zs2⟩ rfl rfl rfl, .refl _, .own _ _ _ _ _ _ rfl (by rw [hcg]; rfl) rfl (by simp [Value.oneCell']), by omega, by omega, ?_⟩
  intro a' n' c' zs' hn' hz' hs'
  have hz2 : zs' = ints .u8 (ys2 ++ [ch (u % 58)]) := by rw [hz', hzs2, hget, ← ints_app]; rfl
  conv => cbv
  refine ⟨by decide, ?_⟩
  refine ⟨10 - (i + 1), ⟨bin .add .i64 ii 1, bin .quo .i64 mi 58, a', n', c', zs'⟩, by omega, ⟨⟨rfl, rfl, rfl, rfl, rfl, rfl, trivial⟩, rfl, ⟨rfl, rfl, trivial⟩, rfl, .refl _⟩, i + 1, u / 58, ys2 ++ [ch (u % 58)], by show bin .add .i64 ii 1 = _; rw [hi, add_i64 hA (by omega)]; rfl, by omega, rfl, eqm, by omega, hz2, by show n' = _; rw [hn', hnr2, List.length_append]; rfl, hs' (by omega), ?_⟩
  rw [show 10 - i = (10 - (i + 1)) + 1 by omega, dsN, List.map_cons] at hT2
  rw [List.append_assoc]
  exact hT2
end Go.Proofs.YtepfbdfbfimefaaDoor.Bf
