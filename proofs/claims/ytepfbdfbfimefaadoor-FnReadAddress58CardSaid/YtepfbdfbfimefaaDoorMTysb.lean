/- The reference: a text of base 58, read. -/
/- The types that some functions name, as the evaluator wants them. Printed by a program of my own (seatgen.py). -/
/- The reference: a text of base 58, read whole. -/
/- SHA-256 as the package's code has it: plain, over the model's own arithmetic. -/
/- The types that some functions name, as the evaluator wants them. Printed by a program of my own (seatgen.py). -/
/- SHA-256: a turn. -/
/- The types that some functions name, as the evaluator wants them. Printed by a program of my own (seatgen.py). -/
import Derived.Test.YtepfbdfbfimefaaDoorMTyek
import Derived.Test.YtepfbdfbfimefaaDoorSl
import Derived.Test.YtepfbdfbfimefaaDoorProg
import Derived.KernelRfl
import Derived.Test.YtepfbdfbfimefaaDoorSu
section
set_option linter.unusedSimpArgs false
set_option linter.unusedVariables false
namespace Go.Proofs.YtepfbdfbfimefaaDoor.Bf
open Go Go.Se Go.Proofs Go.Proofs.YtepfbdfbfimefaaDoor.Co Go.Proofs.YtepfbdfbfimefaaDoor.Ht Go.Proofs.YtepfbdfbfimefaaDoor.Tyek

/-- The first place of a byte; -1: nowhere. -/
def plc : List Int → Int → Int
  | [], _ => -1
  | x :: r, b => if x = b then 0 else if plc r b < 0 then -1 else plc r b + 1

theorem plc_bd (l : List Int) (b : Int) : -1 ≤ plc l b ∧ plc l b < (l.length : Int) := by
  induction l with
  | nil => exact ⟨Int.le_refl (-1), (by decide : (-1 : Int) < 0)⟩
  | cons x r ih =>
    rw [plc, List.length_cons]
    split
    · omega
    · split <;> omega

theorem plc_step (l : List Int) (b : Int) (j : Nat) : (if (if plc l b < 0 then (-1 : Int) else plc l b + 1) < 0 then (-1 : Int) else (if plc l b < 0 then (-1 : Int) else plc l b + 1) + (j : Int)) = if plc l b < 0 then (-1 : Int) else plc l b + ((j + 1 : Nat) : Int) := by
  by_cases h0 : plc l b < 0
  · rw [if_pos h0, if_pos h0]
    rfl
  · rw [if_neg h0, if_neg h0, if_neg (by omega)]
    omega

theorem drop_cons {ts : List Int} {i : Nat} {c : Int} (hc : ts[i]? = some c) : ts.drop i = c :: ts.drop (i + 1) := by
  obtain ⟨h1, h2⟩ := List.getElem?_eq_some_iff.1 hc
  rw [← h2, List.drop_eq_getElem_cons h1]

structure Li where
  i : Int

set_option maxRecDepth 100000 in
set_option maxHeartbeats 2000000 in
theorem placeS {P : Program} (hP : P = Tryd.prog) (R : RO) (x : ByteArray) (xs : List Int) (hx : SB x xs) (hl : xs.length ≤ 100000) (b : Int) :
    RetP P 31 [.string x, .int .u8 b] R fun _ r => ∃ p, r = .int .i64 p ∧ p = plc xs b := by
  subst hP
  have hsz := hx.size
  refine retP_vc (fz := []) Tryd.func31 rfl (by decide) rfl ok31 ?_
  intro P bin cmp cnv neg com bnot beq ofN toN at_ sub_ scmp cat sget ssz ssub elem fld_ hP hA
  conv => cbv
  have oz : ofN (ssz x) = (xs.length : Int) := by rw [ofN_ hA, ssz_ hA, hsz]
  refine ⟨Li, fun y => ⟨[(0, .v (.string x)), (1, .v (.int .u8 b)), (5, .v (.int .i64 y.i))], R, [], 0, []⟩,
    fun k y => ∃ j : Nat, y.i = j ∧ j ≤ xs.length ∧ k = xs.length - j ∧ plc xs b = (if plc (xs.drop j) b < 0 then -1 else plc (xs.drop j) b + j),
    ⟨xs.length, ⟨0⟩, ⟨⟨rfl, rfl, rfl, trivial⟩, rfl, trivial, rfl, .refl _⟩, 0, rfl, Nat.zero_le _, rfl, by have := plc_bd xs b; rw [List.drop_zero]; split <;> omega⟩, ?_⟩
  rintro k ⟨i⟩ ⟨j, hi, hj, hk, hp⟩
  simp only at hi
  conv => cbv
  by_cases hlt : j < xs.length
  case neg =>
    refine br_f (by rw [oz, cmp_lss hA]; simp; omega) ?_
    rw [List.drop_of_length_le (by omega)] at hp
    conv => cbv
    intro ρ R'' _ _ _
    exact ⟨_, rfl, by rw [hp]; rfl⟩
  refine br_t (by rw [oz, cmp_lss hA]; simp; omega) ?_
  conv => cbv
  obtain ⟨d, hd⟩ : ∃ d, xs[j]? = some d := ⟨_, List.getElem?_eq_getElem hlt⟩
  have hix : (0 : Int) ≤ i ∧ i < (x.size : Int) := by rw [hsz]; omega
  have hget : sget x i = d := sb_get hA hx j hi hd
  have hi2 : bin .add .i64 i 1 = ((j + 1 : Nat) : Int) := by rw [hi, add_i64 hA (by omega)]; rfl
  rw [drop_cons hd, plc] at hp
  refine ⟨hix, ?_⟩
  by_cases he : d = b
  · refine br_t (by rw [hget, cmp_eql hA, he]; simp) ?_
    conv => cbv
    intro ρ R'' _ _ _
    exact ⟨_, rfl, by rw [hp, if_pos he, hi]; simp⟩
  refine br_f (by rw [hget, cmp_eql hA]; exact beq_false_of_ne he) ?_
  conv => cbv
  rw [if_neg he] at hp
  have hb2 := plc_bd (xs.drop (j + 1)) b
  exact ⟨xs.length - (j + 1), ⟨bin .add .i64 i 1⟩, by omega, ⟨⟨rfl, rfl, rfl, trivial⟩, rfl, trivial, rfl, .refl _⟩, j + 1, hi2, hlt, rfl, by rw [hp]; exact plc_step _ _ _⟩


theorem lit58r : SB ⟨#[49,50,51,52,53,54,55,56,57,65,66,67,68,69,70,71,72,74,75,76,77,78,80,81,82,83,84,85,86,87,88,89,90,97,98,99,100,101,102,103,104,105,106,107,109,110,111,112,113,114,115,116,117,118,119,120,121,122]⟩ alph := rfl

theorem plc_dv_all : (List.range 256).all (fun n => decide (plc alph (n : Int) = if dv (n : Int) = 255 then -1 else (dv (n : Int) : Int))) = true := by decide +kernel
theorem plc_dv {x : Int} (h0 : 0 ≤ x) (h1 : x ≤ 255) : plc alph x = if dv x = 255 then -1 else (dv x : Int) := by
  obtain ⟨n, rfl⟩ : ∃ n : Nat, x = n := ⟨x.toNat, by omega⟩
  exact of_decide_eq_true (List.all_eq_true.1 plc_dv_all n (List.mem_range.2 (by omega)))

theorem be_set2 : ∀ {ys : List Int} (i : Nat) (d e : Int), ys[i]? = some d → be (ys.set i e) + d.toNat * 256 ^ (ys.length - 1 - i) = be ys + e.toNat * 256 ^ (ys.length - 1 - i)
  | y :: t, 0, d, e, h => by
    simp at h
    subst h
    rw [List.set_cons_zero, be_cons, be_cons, List.length_cons, show t.length + 1 - 1 - 0 = t.length by omega]
    omega
  | y :: t, i + 1, d, e, h => by
    rw [List.getElem?_cons_succ] at h
    have ih := be_set2 (ys := t) i d e h
    rw [List.set_cons_succ, be_cons, be_cons, List.length_set, List.length_cons, show t.length + 1 - 1 - (i + 1) = t.length - 1 - i by omega]
    omega

structure Lpl where
  i : Int
  q : Int
  zs : List Value

set_option maxRecDepth 100000 in
set_option maxHeartbeats 2000000 in
/-- A great number and a small one. -/
theorem plusP {P : Program} (hP : P = Tryd.prog) (R : RO) (a : Option Addr) (n c : Nat) (xs : List Int) (h : RI R .u8 a n xs) (hc : n ≤ c) (hn : n ≤ 10000) (B : Nat) (bi : Int) (hbi : bi = B) (hB : B < 256) :
    RetP P 32 [.slice a n c, .int .u8 bi] R fun R' r => ∃ a' n' c', r = .slice a' n' c' ∧ RI R' .u8 a' n' (dl (be xs + B)).reverse ∧ n' ≤ c' := by
  subst hP
  have hl := h.len
  have hby := By.of_wf h.wf
  have hX := be_lt hby
  rw [← hl] at hX
  refine retP_vc (fz := []) Tryd.func32 rfl (by decide) rfl ok32 ?_
  intro P bin cmp cnv neg com bnot beq ofN toN at_ sub_ scmp cat sget ssz ssub elem fld_ hP hA
  conv => cbv
  refine ⟨1, [.int .u8 0], _, _, _, n, ints .u8 xs, .own 0 1 _ [.int .u8 0] rfl rfl rfl rfl (by decide), .refl _, h.src, by omega, by omega, ?_⟩
  intro ab nb cb zb hnb hzb hsb
  conv => cbv
  obtain ⟨W, hW⟩ : ∃ W, W = n + 1 := ⟨_, rfl⟩
  obtain rfl : W = nb := by omega
  obtain ⟨A, rfl⟩ := Option.isSome_iff_exists.1 (hsb (by omega))
  have oW := ofN_ hA W
  have es : bin .sub .i64 (ofN W) 1 = (W : Int) - 1 := by rw [oW]; exact sub_i64 hA (by omega)
  have hzb' : zb = ints .u8 (0 :: xs) := by rw [hzb]; rfl
  have eb : cnv .i64 bi = (B : Int) := by rw [hbi]; exact cnv_i64 hA (by omega)
  refine ⟨Lpl, fun x => ⟨[(7, .v (.int .i64 x.i)), (6, .v (.int .i64 x.q)), (5, .v (.slice (some A) W cb))], R, [], 1, [⟨some A, W, cb, 5, 1, x.zs⟩]⟩,
    fun m x => ∃ (p q : Nat) (ys : List Int), x.i = (W : Int) - 1 - p ∧ p ≤ W ∧ m = W - p ∧ x.q = (q : Nat) ∧ q < 256 ∧ x.zs = ints .u8 ys ∧ ys.length = W ∧ By ys ∧ be ys + q * 256 ^ p = be xs + B,
    ⟨W, ⟨bin .sub .i64 (ofN W) 1, cnv .i64 bi, zb⟩, ⟨⟨rfl, rfl, rfl, trivial⟩, rfl, trivial, rfl, .refl _⟩, 0, B, 0 :: xs, by show bin .sub .i64 (ofN W) 1 = _; rw [es]; simp, by omega, rfl, eb, hB, hzb', by rw [List.length_cons]; omega, ?_, by rw [be_cons]; simp⟩, ?_⟩
  · intro x hx
    rcases List.mem_cons.1 hx with rfl | hx
    · decide
    · exact hby x hx
  rintro m ⟨ii, qi, zs⟩ ⟨p, q, ys, hi, hp, hm, hq, hql, hzs, hyl, hyb, hyv⟩
  simp only at hi hq hzs
  conv => cbv
  by_cases hlt : p < W
  case neg =>
    refine br_f (by rw [cmp_geq hA]; simp; omega) ?_
    conv => cbv
    have hv : be ys = be xs + B := by
      obtain rfl : p = W := by omega
      have h1 : be xs + B < 256 ^ p := by
        rw [hW, Nat.pow_succ]
        have := Nat.pow_pos (n := n) (show 0 < 256 by decide)
        omega
      have h3 : q = 0 := by
        refine Nat.eq_zero_of_not_pos fun h4 => ?_
        have := Nat.le_mul_of_pos_left (256 ^ p) h4
        omega
      rw [h3] at hyv
      omega
    refine CallP.pub 0 rfl (fun R1 hR1 hp1 => ?_) ⟨_, by rw [hP]; exact Tryd.func13, by decide, rfl⟩
    have hr1 : RI R1 .u8 (some A) W ys := hp1.ri hyl.symm (fun _ => rfl) rfl hzs hyb.wf
    refine (trimP hP R1 (some A) W cb ys hr1 (hp1.cap_ (by show (1 : Nat) ≠ 4096; decide) (fun _ => rfl)) (by omega)).callP rfl ?_
    rintro R2 _ hR2 ⟨a', n', c', rfl, hr, hc'⟩
    conv => cbv
    intro ρ R'' hle _ _
    exact ⟨a', n', c', rfl, by rw [← hv]; exact hr.le hle, hc'⟩
  refine br_t (by rw [cmp_geq hA]; simp; omega) ?_
  conv => cbv
  have hii : ii.toNat = W - 1 - p := by omega
  obtain ⟨d, hd⟩ : ∃ d, ys[W - 1 - p]? = some d := ⟨_, List.getElem?_eq_getElem (by omega)⟩
  have hdb := hyb d (List.mem_of_getElem? hd)
  refine ⟨by omega, by rw [oW]; omega, rfl, ?_⟩
  refine ld_row hA 0 (r := ⟨some A, W, cb, 5, 1, zs⟩) rfl rfl rfl (v := .int .u8 d) (by show zs[ii.toNat]? = _; rw [hii, hzs, ints, List.getElem?_map, hd]; rfl) ?_
  obtain ⟨C, hC⟩ : ∃ C, C = q + d.toNat := ⟨_, rfl⟩
  have ec : bin .add .i64 qi (cnv .i64 d) = (C : Int) := by rw [hq, cnv_i64 hA (by omega), add_i64 hA (by omega)]; omega
  conv => cbv
  refine ⟨by decide, ?_⟩
  have e8 : cnv .u8 (bin .rem .i64 (bin .add .i64 qi (cnv .i64 d)) 256) = ((C % 256 : Nat) : Int) := by
    have e2 : bin .rem .i64 (bin .add .i64 qi (cnv .i64 d)) 256 = ((C % 256 : Nat) : Int) := by rw [ec, rem_i64 hA (by omega)]; omega
    rw [e2]
    exact cnv_u8 hA (by omega)
  refine ⟨by omega, by rw [oW]; omega, rfl, ?_⟩
  refine ⟨0, _, A, W - 1 - p, rfl, rfl, by rw [elem_is hA]; show A.add (ii.toNat * 1) = _; rw [Nat.mul_one, hii], by show W - 1 - p + 1 ≤ zs.length; rw [hzs, ints_len, hyl]; omega, ?_⟩
  intro z1 hz1
  have hz1' : z1 = ints .u8 (ys.set (W - 1 - p) ((C % 256 : Nat) : Int)) := by
    rw [hz1]
    show List.take (W - 1 - p) zs ++ [Value.int .u8 _] ++ List.drop (W - 1 - p + 1) zs = _
    rw [hzs, e8]
    exact ints_set _ _ _ _ (by omega)
  conv => cbv
  refine ⟨by decide, ?_⟩
  refine ⟨W - (p + 1), ⟨bin .sub .i64 ii 1, bin .quo .i64 (bin .add .i64 qi (cnv .i64 d)) 256, z1⟩, by omega, ⟨⟨rfl, rfl, rfl, trivial⟩, rfl, trivial, rfl, .refl _⟩, p + 1, C / 256, _, by show bin .sub .i64 ii 1 = (W : Int) - 1 - ((p + 1 : Nat) : Int); rw [hi, sub_i64 hA (by omega)]; omega, by omega, rfl, ?_, by omega, hz1', by simp [hyl], ?_, ?_⟩
  · show bin .quo .i64 (bin .add .i64 qi (cnv .i64 d)) 256 = ((C / 256 : Nat) : Int)
    rw [ec, quo_i64 hA (by omega) (by omega) (by decide)]
    omega
  · intro x hx
    rcases List.mem_or_eq_of_mem_set hx with hx | hx
    · exact hyb x hx
    · rw [hx]; omega
  · have h1 := be_set2 (W - 1 - p) d ((C % 256 : Nat) : Int) hd
    rw [hyl, show W - 1 - (W - 1 - p) = p by omega, Int.toNat_natCast] at h1
    have h2 : C % 256 * 256 ^ p + C / 256 * 256 ^ (p + 1) = C * 256 ^ p := by
      rw [Nat.pow_succ, Nat.mul_comm (256 ^ p) 256, ← Nat.mul_assoc, ← Nat.add_mul]
      congr 1
      omega
    have h3 : C * 256 ^ p = q * 256 ^ p + d.toNat * 256 ^ p := by rw [hC, Nat.add_mul]
    omega
end Go.Proofs.YtepfbdfbfimefaaDoor.Bf
end
section
namespace Go.Proofs.YtepfbdfbfimefaaDoor.Tyel
open Go Go.Se Go.Proofs

/-- int -/
def y3 : Ty := ⟨.int .i64, 1, false, .int .i64 0, 8⟩
theorem ty3 : tyOf Tryd.prog 3 = some y3 := by kernel_rfl
/-- uint8 -/
def y5 : Ty := ⟨.int .u8, 1, false, .int .u8 0, 1⟩
theorem ty5 : tyOf Tryd.prog 5 = some y5 := by kernel_rfl
/-- string -/
def y9 : Ty := ⟨.str, 1, false, .string ByteArray.empty, 16⟩
theorem ty9 : tyOf Tryd.prog 9 = some y9 := by kernel_rfl
/-- []uint8 -/
def y22 : Ty := ⟨.slc 5, 1, false, .slice none 0 0, 24⟩
theorem ty22 : tyOf Tryd.prog 22 = some y22 := by kernel_rfl

/-- function 17: pub-mintmark/spec.Unbase58 -/
def tys17 : Nat → Option Ty := fun t => find [(9, y9), (3, y3), (5, y5), (22, y22)] t
theorem ok17 : TysOk Tryd.prog tys17 := tysOk_of ⟨ty9, ty3, ty5, ty22, trivial⟩
end Go.Proofs.YtepfbdfbfimefaaDoor.Tyel
end
section
set_option linter.unusedSimpArgs false
set_option linter.unusedVariables false
namespace Go.Proofs.YtepfbdfbfimefaaDoor.Bf
open Go Go.Se Go.Proofs Go.Proofs.YtepfbdfbfimefaaDoor.Co Go.Proofs.YtepfbdfbfimefaaDoor.Ht Go.Proofs.YtepfbdfbfimefaaDoor.Tyel

theorem ones_snoc : ∀ (l : List Int) (x : Int), ones (l ++ [x]) = if ones l = l.length then (if x = 49 then l.length + 1 else l.length) else ones l
  | [], x => by
    by_cases h : x = 49
    · simp [ones, h]
    · simp [ones, h]
  | y :: l, x => by
    rw [List.cons_append, ones, ones, List.length_cons]
    by_cases hy : y = 49
    · rw [if_pos hy, if_pos hy, ones_snoc l x]
      by_cases h : ones l = l.length
      · rw [if_pos h, if_pos (show ones l + 1 = l.length + 1 by omega)]
        split <;> rfl
      · rw [if_neg h, if_neg (show ¬ ones l + 1 = l.length + 1 by omega)]
    · rw [if_neg hy, if_neg hy, if_neg (show ¬ 0 = l.length + 1 by omega)]

theorem dv_zero {x : Int} (h : dv x ≠ 255) : dv x = 0 ↔ x = 49 := by
  constructor
  · intro h0
    have := ch_dv h
    rw [h0] at this
    exact this.symm
  · intro h0
    rw [h0]
    decide


structure Lub where
  R : RO
  i : Int
  z : Int
  ah : Bool
  a : Option Addr
  n : Nat
  c : Nat

set_option maxRecDepth 100000 in
set_option maxHeartbeats 4000000 in
theorem unbase58S {P : Program} (hP : P = Tryd.prog) (R : RO) (b : ByteArray) (xs : List Int) (hb : SB b xs) (hxb : ∀ x ∈ xs, 0 ≤ x ∧ x ≤ 255) (hn : xs.length ≤ 1000) :
    RetP P 17 [.string b] R fun R' r => ∃ a n c zs ok, r = .tuple #[.slice a n c, .bool ok] ∧ n ≤ c ∧ RI R' .u8 a n zs ∧ (ok = true ↔ Good xs) ∧ (Good xs → zs = dec xs) := by
  subst hP
  have hsz := hb.size
  refine retP_vc (fz := []) Tryd.func17 rfl (by decide) rfl ok17 ?_
  intro P bin cmp cnv neg com bnot beq ofN toN at_ sub_ scmp cat sget ssz ssub elem fld_ hP hA
  conv => cbv
  obtain ⟨L, hL⟩ : ∃ L, L = xs.length := ⟨_, rfl⟩
  have ob : ofN (ssz b) = (L : Int) := by rw [ofN_ hA, ssz_ hA, hsz, hL]
  refine ⟨Lub, fun x => ⟨[(7, .v (.int .i64 x.i)), (5, .v (.int .i64 x.z)), (6, .v (.bool x.ah)), (4, .v (.slice x.a x.n x.c)), (0, .v (.string b))], x.R, [], 0, []⟩,
    fun m x => ∃ i : Nat, x.i = i ∧ i ≤ L ∧ m = L - i ∧ R.le x.R ∧ Good (xs.take i) ∧ RI x.R .u8 x.a x.n (dl (hx (xs.take i))).reverse ∧ x.n ≤ x.c ∧ x.z = (ones (xs.take i) : Nat) ∧ x.ah = decide (ones (xs.take i) = i),
    ⟨L, ⟨R, 0, 0, true, none, 0, 0⟩, ⟨⟨rfl, rfl, rfl, rfl, rfl, trivial⟩, rfl, trivial, rfl, .refl _⟩, 0, rfl, Nat.zero_le _, rfl, fun _ _ h => h, good_nil, by rw [show hx (xs.take 0) = 0 from rfl, dl0]; exact RI.nil, Nat.le_refl _, rfl, rfl⟩, ?_⟩
  rintro m ⟨R1, ii, zi, ah, a1, n1, c1⟩ ⟨i, hi, hiL, hm, hR1, hgi, hr1, hc1, hz, hah⟩
  simp only at hi hR1 hr1 hc1 hz hah
  have htl : (xs.take i).length = i := by rw [List.length_take]; omega
  have hn1 : n1 ≤ 1000 := by
    rw [hr1.len, List.length_reverse]
    have h1 := good_lt hgi
    rw [htl] at h1
    exact Nat.le_trans (dl_sz (k := i) (Nat.lt_of_lt_of_le h1 (Nat.pow_le_pow_left (by decide) _))) (by omega)
  have hol := ones_le (xs.take i)
  rw [htl] at hol
  conv => cbv
  by_cases hlt : i < L
  case neg =>
    obtain rfl : i = L := by omega
    rw [List.take_of_length_le (by omega)] at hgi hr1 hz hah hol
    refine br_f (by rw [ob, cmp_lss hA]; simp; omega) ?_
    conv => cbv
    refine ⟨by omega, by omega, by omega, by omega, ?_⟩
    intro az nz cz z hnz hcz hz2
    rw [hz] at hnz hcz
    obtain ⟨Z, hZ⟩ : ∃ Z, Z = ones xs := ⟨_, rfl⟩
    obtain rfl : Z = nz := by omega
    obtain rfl : Z = cz := by omega
    rw [zeros] at hz2
    conv => cbv
    refine ⟨Z, z, _, _, _, n1, ints .u8 (dl (hx xs)).reverse, .row 0 ⟨some az, Z, Z, 5, 1, z⟩ rfl rfl rfl, .refl _, hr1.src, by omega, by omega, ?_⟩
    intro a' n' c' zs' hn' hzs' hs'
    conv => cbv
    intro ρ R'' hle hpub hpr
    have hz0 : zs' = ints .u8 (dec xs) := by rw [hzs', hz2, ints_app, dec, hZ]
    have hlen : n' = (dec xs).length := by rw [hn', dec, List.length_append, List.length_replicate, ← hZ, ← hr1.len]
    have hw : By (dec xs) := fun y hy => by
      rw [dec] at hy
      rcases List.mem_append.1 hy with hy | hy
      · rw [List.eq_of_mem_replicate hy]; decide
      · exact dl_wf _ y (List.mem_reverse.1 hy)
    exact ⟨a', n', c', dec xs, true, rfl, (hpr _ (List.mem_cons_self ..)).cap_ (by show (1 : Nat) ≠ 4096; decide) hs', (hpr _ (List.mem_cons_self ..)).ri hlen hs' rfl hz0 hw.wf, ⟨fun _ => hgi, fun _ => rfl⟩, fun _ => rfl⟩
  refine br_t (by rw [ob, cmp_lss hA]; simp; omega) ?_
  conv => cbv
  obtain ⟨d, hd⟩ : ∃ d, xs[i]? = some d := ⟨_, List.getElem?_eq_getElem (by omega)⟩
  have hdb := hxb d (List.mem_of_getElem? hd)
  have hget : sget b ii = d := sb_get hA hb i hi hd
  have htk : xs.take (i + 1) = xs.take i ++ [d] := by rw [List.take_add_one, hd]; rfl
  have hpd := plc_dv hdb.1 hdb.2
  refine ⟨⟨by omega, by rw [hsz, hi]; exact Int.ofNat_lt.2 (by omega)⟩, ?_⟩
  simp (maxSteps := 10000000) only [hget]
  conv => cbv
  refine (placeS hP R1 _ alph lit58r (by decide) d).callQ rfl ?_
  rintro _ ⟨p, rfl, hp⟩
  conv => cbv
  by_cases hdv : dv d = 255
  · rw [hpd, if_pos hdv] at hp
    refine br_t (by rw [cmp_lss hA, hp]; decide) ?_
    conv => cbv
    have hbad : ¬ Good xs := fun hG => hG d (List.mem_of_getElem? hd) hdv
    intro ρ R'' _ _ _
    exact ⟨none, 0, 0, [], false, rfl, Nat.le_refl _, RI.nil, ⟨fun h => (by cases h), fun h => absurd h hbad⟩, fun h => absurd h hbad⟩
  rw [hpd, if_neg hdv] at hp
  have hdl := dv_lt hdv
  refine br_f (by rw [cmp_lss hA]; simp; omega) ?_
  conv => cbv
  have hon := ones_snoc (xs.take i) d
  rw [htl, ← htk] at hon
  have hz49 := dv_zero hdv
  have hlz : (dl (hx (xs.take i))).length ≤ 1000 := by rw [← List.length_reverse, ← hr1.len]; exact hn1
  have key : ∀ (z2 : Int) (ah2 : Bool), z2 = (ones (xs.take (i + 1)) : Nat) → ah2 = decide (ones (xs.take (i + 1)) = i + 1) → ∀ (R3 : RO) (a3 : Option Addr) (n3 c3 : Nat), R1.le R3 → RI R3 .u8 a3 n3 (dl (hx (xs.take i) * 58 + dv d)).reverse → n3 ≤ c3 →
      L - (i + 1) < m ∧ ∃ k : Nat, bin .add .i64 ii 1 = k ∧ k ≤ L ∧ L - (i + 1) = L - k ∧ R.le R3 ∧ Good (xs.take k) ∧ RI R3 .u8 a3 n3 (dl (hx (xs.take k))).reverse ∧ n3 ≤ c3 ∧ z2 = (ones (xs.take k) : Nat) ∧ ah2 = decide (ones (xs.take k) = k) := by
    intro z2 ah2 h1 h2 R3 a3 n3 c3 h3 h4 h5
    refine ⟨by omega, i + 1, by rw [hi, add_i64 hA (by omega)]; rfl, by omega, rfl, RO.le_trans hR1 h3, ?_, ?_, h5, h1, h2⟩
    · rw [htk]
      exact good_app hgi (good_one hdv)
    · rw [htk, hx_snoc]
      exact h4
  have ep : cnv .u8 p = (dv d : Int) := by rw [hp]; exact cnv_u8 hA (by omega)
  by_cases hall : ones (xs.take i) = i
  · rw [decide_eq_true hall] at hah
    subst hah
    rw [if_pos hall] at hon
    conv => cbv
    by_cases h49 : d = 49
    · have cp0 : cmp .eql p 0 = true := by rw [cmp_eql hA, hp, hz49.2 h49]; rfl
      simp (maxSteps := 10000000) only [cp0]
      conv => cbv
      have ez2 : bin .add .i64 zi 1 = (ones (xs.take (i + 1)) : Nat) := by rw [hz, hon, if_pos h49, hall, add_i64 hA (by omega)]; rfl
      refine (timesP hP R1 a1 n1 c1 _ hr1 hc1 (by omega) 58 58 rfl (by decide)).callP rfl ?_
      rintro R2 _ hR2 ⟨a2, n2, c2, rfl, hr2, hc2⟩
      rw [be_rev] at hr2
      have hn2 : n2 ≤ 10000 := by
        rw [hr2.len, List.length_reverse]
        have h1 := good_lt hgi
        rw [htl] at h1
        have h2 : hx (xs.take i) * 58 < 256 ^ (i + 1) := by
          rw [Nat.pow_succ]
          exact Nat.mul_lt_mul'' (Nat.lt_of_lt_of_le h1 (Nat.pow_le_pow_left (by decide) _)) (by decide)
        exact Nat.le_trans (dl_sz (k := i + 1) h2) (by omega)
      conv => cbv
      refine (plusP hP R2 a2 n2 c2 _ hr2 hc2 hn2 (dv d) _ ep (by omega)).callP rfl ?_
      rintro R3 _ hR3 ⟨a3, n3, c3, rfl, hr3, hc3⟩
      rw [be_rev] at hr3
      conv => cbv
      obtain ⟨k1, k2⟩ := key ((bin .add .i64 zi 1)) true ez2 (decide_eq_true (show ones (xs.take (i + 1)) = i + 1 by rw [hon, if_pos h49])).symm R3 a3 n3 c3 (RO.le_trans hR2 hR3) hr3 hc3
      exact ⟨L - (i + 1), ⟨R3, bin .add .i64 ii 1, (bin .add .i64 zi 1), true, a3, n3, c3⟩, k1, ⟨⟨rfl, rfl, rfl, rfl, rfl, trivial⟩, rfl, trivial, rfl, .refl _⟩, k2⟩
    · have cp0 : cmp .eql p 0 = false := by
        rw [cmp_eql hA, hp]
        exact beq_false_of_ne fun e => h49 (hz49.1 (by omega))
      simp (maxSteps := 10000000) only [cp0]
      conv => cbv
      have ez2 : zi = (ones (xs.take (i + 1)) : Nat) := by rw [hz, hon, if_neg h49, hall]
      refine (timesP hP R1 a1 n1 c1 _ hr1 hc1 (by omega) 58 58 rfl (by decide)).callP rfl ?_
      rintro R2 _ hR2 ⟨a2, n2, c2, rfl, hr2, hc2⟩
      rw [be_rev] at hr2
      have hn2 : n2 ≤ 10000 := by
        rw [hr2.len, List.length_reverse]
        have h1 := good_lt hgi
        rw [htl] at h1
        have h2 : hx (xs.take i) * 58 < 256 ^ (i + 1) := by
          rw [Nat.pow_succ]
          exact Nat.mul_lt_mul'' (Nat.lt_of_lt_of_le h1 (Nat.pow_le_pow_left (by decide) _)) (by decide)
        exact Nat.le_trans (dl_sz (k := i + 1) h2) (by omega)
      conv => cbv
      refine (plusP hP R2 a2 n2 c2 _ hr2 hc2 hn2 (dv d) _ ep (by omega)).callP rfl ?_
      rintro R3 _ hR3 ⟨a3, n3, c3, rfl, hr3, hc3⟩
      rw [be_rev] at hr3
      conv => cbv
      obtain ⟨k1, k2⟩ := key (zi) false ez2 (decide_eq_false (show ¬ ones (xs.take (i + 1)) = i + 1 by rw [hon, if_neg h49]; omega)).symm R3 a3 n3 c3 (RO.le_trans hR2 hR3) hr3 hc3
      exact ⟨L - (i + 1), ⟨R3, bin .add .i64 ii 1, zi, false, a3, n3, c3⟩, k1, ⟨⟨rfl, rfl, rfl, rfl, rfl, trivial⟩, rfl, trivial, rfl, .refl _⟩, k2⟩
  · rw [decide_eq_false hall] at hah
    subst hah
    rw [if_neg hall] at hon
    conv => cbv
    have ez2 : zi = (ones (xs.take (i + 1)) : Nat) := by rw [hz, hon]
    refine (timesP hP R1 a1 n1 c1 _ hr1 hc1 (by omega) 58 58 rfl (by decide)).callP rfl ?_
    rintro R2 _ hR2 ⟨a2, n2, c2, rfl, hr2, hc2⟩
    rw [be_rev] at hr2
    have hn2 : n2 ≤ 10000 := by
      rw [hr2.len, List.length_reverse]
      have h1 := good_lt hgi
      rw [htl] at h1
      have h2 : hx (xs.take i) * 58 < 256 ^ (i + 1) := by
        rw [Nat.pow_succ]
        exact Nat.mul_lt_mul'' (Nat.lt_of_lt_of_le h1 (Nat.pow_le_pow_left (by decide) _)) (by decide)
      exact Nat.le_trans (dl_sz (k := i + 1) h2) (by omega)
    conv => cbv
    refine (plusP hP R2 a2 n2 c2 _ hr2 hc2 hn2 (dv d) _ ep (by omega)).callP rfl ?_
    rintro R3 _ hR3 ⟨a3, n3, c3, rfl, hr3, hc3⟩
    rw [be_rev] at hr3
    conv => cbv
    obtain ⟨k1, k2⟩ := key (zi) false ez2 (decide_eq_false (show ¬ ones (xs.take (i + 1)) = i + 1 by rw [hon]; omega)).symm R3 a3 n3 c3 (RO.le_trans hR2 hR3) hr3 hc3
    exact ⟨L - (i + 1), ⟨R3, bin .add .i64 ii 1, zi, false, a3, n3, c3⟩, k1, ⟨⟨rfl, rfl, rfl, rfl, rfl, trivial⟩, rfl, trivial, rfl, .refl _⟩, k2⟩
end Go.Proofs.YtepfbdfbfimefaaDoor.Bf
end
section
set_option linter.unusedSimpArgs false
set_option linter.unusedVariables false
namespace Go.Proofs.YtepfbdfbfimefaaDoor.Sha
open Go Go.Se

/-- How far a turn to the left goes. -/
def rsh (k : Int) : Int := Ar.real.bin .and .u64 (Ar.real.conv .u64 k) 31
def rot (x k : Int) : Int := Ar.real.bin .or .u32 (Ar.real.bin .shl .u32 x (rsh k)) (Ar.real.bin .shr .u32 x (Ar.real.bin .sub .u64 32 (rsh k)))
def x3 (a b c : Int) : Int := Ar.real.bin .xor .u32 (Ar.real.bin .xor .u32 a b) c
def ad (a b : Int) : Int := Ar.real.bin .add .u32 a b
def sg0 (x : Int) : Int := x3 (rot x (-7)) (rot x (-18)) (Ar.real.bin .shr .u32 x 3)
def sg1 (x : Int) : Int := x3 (rot x (-17)) (rot x (-19)) (Ar.real.bin .shr .u32 x 10)

/-- A word of the block. -/
def by4 (a b c d : Int) : Int := Ar.real.bin .or .u32 (Ar.real.bin .or .u32 (Ar.real.bin .or .u32 (Ar.real.bin .shl .u32 (Ar.real.conv .u32 a) 24) (Ar.real.bin .shl .u32 (Ar.real.conv .u32 b) 16)) (Ar.real.bin .shl .u32 (Ar.real.conv .u32 c) 8)) (Ar.real.conv .u32 d)
def wrd (ps : List Int) (j : Nat) : Int := by4 (ps.getD j 0) (ps.getD (j + 1) 0) (ps.getD (j + 2) 0) (ps.getD (j + 3) 0)
/-- A further word. -/
def wnw (ws : List Int) (i : Nat) : Int := ad (ad (ad (sg1 (ws.getD (i - 2) 0)) (ws.getD (i - 7) 0)) (sg0 (ws.getD (i - 15) 0))) (ws.getD (i - 16) 0)
def wi (ps ws : List Int) (i : Nat) : Int := if i < 16 then wrd ps (i * 4) else wnw ws i

structure S8 where
  a : Int
  b : Int
  c : Int
  d : Int
  e : Int
  f : Int
  g : Int
  h : Int

def t1 (s : S8) (k w : Int) : Int := ad (ad (ad (ad s.h (x3 (rot s.e (-6)) (rot s.e (-11)) (rot s.e (-25)))) (Ar.real.bin .xor .u32 (Ar.real.bin .and .u32 s.e s.f) (Ar.real.bin .and .u32 (Ar.real.com .u32 s.e) s.g))) k) w
def t2 (s : S8) : Int := ad (x3 (rot s.a (-2)) (rot s.a (-13)) (rot s.a (-22))) (x3 (Ar.real.bin .and .u32 s.a s.b) (Ar.real.bin .and .u32 s.a s.c) (Ar.real.bin .and .u32 s.b s.c))
def rnd (s : S8) (k w : Int) : S8 := ⟨ad (t1 s k w) (t2 s), s.a, s.b, s.c, ad s.d (t1 s k w), s.e, s.f, s.g⟩
/-- The rounds: the state and the words. -/
def rounds (K ps : List Int) : Nat → S8 × List Int → S8 × List Int
  | 0, x => x
  | n + 1, x => (rnd (rounds K ps n x).1 (K.getD n 0) (wi ps (rounds K ps n x).2 n), (rounds K ps n x).2.set n (wi ps (rounds K ps n x).2 n))
def addS (s t : S8) : S8 := ⟨ad s.a t.a, ad s.b t.b, ad s.c t.c, ad s.d t.d, ad s.e t.e, ad s.f t.f, ad s.g t.g, ad s.h t.h⟩
def blk1 (K ps : List Int) (x : S8 × List Int) : S8 × List Int := (addS x.1 (rounds K ps 64 x).1, (rounds K ps 64 x).2)
/-- Some blocks. -/
def blks (K : List Int) : Nat → List Int → S8 × List Int → S8 × List Int
  | 0, _, x => x
  | n + 1, ps, x => blks K n (ps.drop 64) (blk1 K ps x)

def S8.l (s : S8) : List Int := [s.a, s.b, s.c, s.d, s.e, s.f, s.g, s.h]

theorem rounds_len (K ps : List Int) (n : Nat) (x : S8 × List Int) : (rounds K ps n x).2.length = x.2.length := by
  induction n with
  | zero => rfl
  | succ n ih => rw [rounds, List.length_set, ih]

theorem blks_len (K : List Int) : ∀ (n : Nat) (ps : List Int) (x : S8 × List Int), (blks K n ps x).2.length = x.2.length
  | 0, _, _ => rfl
  | n + 1, ps, x => by rw [blks, blks_len K n, blk1, rounds_len]

theorem rsh_ok : ∀ k ∈ [(-2 : Int), -13, -22, -6, -11, -25, -7, -18, -17, -19], 0 ≤ rsh k ∧ 0 ≤ Ar.real.bin .sub .u64 32 (rsh k) := by decide +kernel
end Go.Proofs.YtepfbdfbfimefaaDoor.Sha
end
section
namespace Go.Proofs.YtepfbdfbfimefaaDoor.Tysa
open Go Go.Se Go.Proofs

/-- int -/
def y3 : Ty := ⟨.int .i64, 1, false, .int .i64 0, 8⟩
theorem ty3 : tyOf Tryd.prog 3 = some y3 := by kernel_rfl
/-- uint32 -/
def y68 : Ty := ⟨.int .u32, 1, false, .int .u32 0, 4⟩
theorem ty68 : tyOf Tryd.prog 68 = some y68 := by kernel_rfl
/-- uint -/
def y82 : Ty := ⟨.int .u64, 1, false, .int .u64 0, 8⟩
theorem ty82 : tyOf Tryd.prog 82 = some y82 := by kernel_rfl

/-- function 89: math/bits.RotateLeft32 -/
def tys89 : Nat → Option Ty := fun t => find [(3, y3), (82, y82), (68, y68)] t
theorem ok89 : TysOk Tryd.prog tys89 := tysOk_of ⟨ty3, ty82, ty68, trivial⟩
end Go.Proofs.YtepfbdfbfimefaaDoor.Tysa
end
section
set_option linter.unusedSimpArgs false
set_option linter.unusedVariables false
namespace Go.Proofs.YtepfbdfbfimefaaDoor.Sha
open Go Go.Se Go.Proofs Go.Proofs.YtepfbdfbfimefaaDoor.Tysa

set_option maxRecDepth 100000 in
theorem rotP {P : Program} (hP : P = Tryd.prog) (R : RO) (x k : Int) (hk : k ∈ [(-2 : Int), -13, -22, -6, -11, -25, -7, -18, -17, -19]) :
    RetP P 89 [.int .u32 x, .int .i64 k] R fun _ r => ∃ y, r = .int .u32 y ∧ y = rot x k := by
  subst hP
  have hr := rsh_ok k hk
  refine retP_vc (fz := []) Tryd.func89 rfl (by decide) rfl ok89 ?_
  intro P bin cmp cnv neg com bnot beq ofN toN at_ sub_ scmp cat sget ssz ssub elem fld_ hP hA
  conv => cbv
  have e1 : bin .and .u64 (cnv .u64 k) 31 = rsh k := by rw [bin_is hA, cnv_is hA]; rfl
  obtain ⟨s, hs⟩ : ∃ s, s = bin .and .u64 (cnv .u64 k) 31 := ⟨_, rfl⟩
  simp (maxSteps := 10000000) only [← hs]
  rw [e1] at hs
  refine ⟨by rw [hs]; exact hr.1, ?_⟩
  refine ⟨by rw [hs, bin_is hA]; exact hr.2, ?_⟩
  intro ρ R'' _ _ _
  exact ⟨_, rfl, by rw [hs, bin_is hA]; rfl⟩
end Go.Proofs.YtepfbdfbfimefaaDoor.Sha
end
section
namespace Go.Proofs.YtepfbdfbfimefaaDoor.Tysb
open Go Go.Se Go.Proofs

/-- int -/
def y3 : Ty := ⟨.int .i64, 1, false, .int .i64 0, 8⟩
theorem ty3 : tyOf Tryd.prog 3 = some y3 := by kernel_rfl
/-- bool -/
def y4 : Ty := ⟨.bool, 1, false, .bool false, 1⟩
theorem ty4 : tyOf Tryd.prog 4 = some y4 := by kernel_rfl
/-- uint8 -/
def y5 : Ty := ⟨.int .u8, 1, false, .int .u8 0, 1⟩
theorem ty5 : tyOf Tryd.prog 5 = some y5 := by kernel_rfl
/-- []uint8 -/
def y22 : Ty := ⟨.slc 5, 1, false, .slice none 0 0, 24⟩
theorem ty22 : tyOf Tryd.prog 22 = some y22 := by kernel_rfl
/-- uint64 -/
def y33 : Ty := ⟨.int .u64, 1, false, .int .u64 0, 8⟩
theorem ty33 : tyOf Tryd.prog 33 = some y33 := by kernel_rfl
/-- uint32 -/
def y68 : Ty := ⟨.int .u32, 1, false, .int .u32 0, 4⟩
theorem ty68 : tyOf Tryd.prog 68 = some y68 := by kernel_rfl
/-- [8]uint32 -/
def y89 : Ty := ⟨.arr 8 68, 8, true, .agg #[.int .u32 0, .int .u32 0, .int .u32 0, .int .u32 0, .int .u32 0, .int .u32 0, .int .u32 0, .int .u32 0], 32⟩
theorem ty89 : tyOf Tryd.prog 89 = some y89 := by kernel_rfl
/-- [64]uint8 -/
def y90 : Ty := ⟨.arr 64 5, 64, true, .agg #[.int .u8 0, .int .u8 0, .int .u8 0, .int .u8 0, .int .u8 0, .int .u8 0, .int .u8 0, .int .u8 0, .int .u8 0, .int .u8 0, .int .u8 0, .int .u8 0, .int .u8 0, .int .u8 0, .int .u8 0, .int .u8 0, .int .u8 0, .int .u8 0, .int .u8 0, .int .u8 0, .int .u8 0, .int .u8 0, .int .u8 0, .int .u8 0, .int .u8 0, .int .u8 0, .int .u8 0, .int .u8 0, .int .u8 0, .int .u8 0, .int .u8 0, .int .u8 0, .int .u8 0, .int .u8 0, .int .u8 0, .int .u8 0, .int .u8 0, .int .u8 0, .int .u8 0, .int .u8 0, .int .u8 0, .int .u8 0, .int .u8 0, .int .u8 0, .int .u8 0, .int .u8 0, .int .u8 0, .int .u8 0, .int .u8 0, .int .u8 0, .int .u8 0, .int .u8 0, .int .u8 0, .int .u8 0, .int .u8 0, .int .u8 0, .int .u8 0, .int .u8 0, .int .u8 0, .int .u8 0, .int .u8 0, .int .u8 0, .int .u8 0, .int .u8 0], 64⟩
theorem ty90 : tyOf Tryd.prog 90 = some y90 := by kernel_rfl
/-- sha256.Digest -/
def y92 : Ty := ⟨.stc [(0, 89), (8, 90), (72, 3), (73, 33), (74, 4)], 75, true, .agg #[.int .u32 0, .int .u32 0, .int .u32 0, .int .u32 0, .int .u32 0, .int .u32 0, .int .u32 0, .int .u32 0, .int .u8 0, .int .u8 0, .int .u8 0, .int .u8 0, .int .u8 0, .int .u8 0, .int .u8 0, .int .u8 0, .int .u8 0, .int .u8 0, .int .u8 0, .int .u8 0, .int .u8 0, .int .u8 0, .int .u8 0, .int .u8 0, .int .u8 0, .int .u8 0, .int .u8 0, .int .u8 0, .int .u8 0, .int .u8 0, .int .u8 0, .int .u8 0, .int .u8 0, .int .u8 0, .int .u8 0, .int .u8 0, .int .u8 0, .int .u8 0, .int .u8 0, .int .u8 0, .int .u8 0, .int .u8 0, .int .u8 0, .int .u8 0, .int .u8 0, .int .u8 0, .int .u8 0, .int .u8 0, .int .u8 0, .int .u8 0, .int .u8 0, .int .u8 0, .int .u8 0, .int .u8 0, .int .u8 0, .int .u8 0, .int .u8 0, .int .u8 0, .int .u8 0, .int .u8 0, .int .u8 0, .int .u8 0, .int .u8 0, .int .u8 0, .int .u8 0, .int .u8 0, .int .u8 0, .int .u8 0, .int .u8 0, .int .u8 0, .int .u8 0, .int .u8 0, .int .i64 0, .int .u64 0, .bool false], 120⟩
theorem ty92 : tyOf Tryd.prog 92 = some y92 := by kernel_rfl
/-- [64]uint32 -/
def y117 : Ty := ⟨.arr 64 68, 64, true, .agg #[.int .u32 0, .int .u32 0, .int .u32 0, .int .u32 0, .int .u32 0, .int .u32 0, .int .u32 0, .int .u32 0, .int .u32 0, .int .u32 0, .int .u32 0, .int .u32 0, .int .u32 0, .int .u32 0, .int .u32 0, .int .u32 0, .int .u32 0, .int .u32 0, .int .u32 0, .int .u32 0, .int .u32 0, .int .u32 0, .int .u32 0, .int .u32 0, .int .u32 0, .int .u32 0, .int .u32 0, .int .u32 0, .int .u32 0, .int .u32 0, .int .u32 0, .int .u32 0, .int .u32 0, .int .u32 0, .int .u32 0, .int .u32 0, .int .u32 0, .int .u32 0, .int .u32 0, .int .u32 0, .int .u32 0, .int .u32 0, .int .u32 0, .int .u32 0, .int .u32 0, .int .u32 0, .int .u32 0, .int .u32 0, .int .u32 0, .int .u32 0, .int .u32 0, .int .u32 0, .int .u32 0, .int .u32 0, .int .u32 0, .int .u32 0, .int .u32 0, .int .u32 0, .int .u32 0, .int .u32 0, .int .u32 0, .int .u32 0, .int .u32 0, .int .u32 0], 256⟩
theorem ty117 : tyOf Tryd.prog 117 = some y117 := by kernel_rfl

/-- function 58: crypto/internal/fips140/sha256.blockGeneric -/
def tys58 : Nat → Option Ty := fun t => find [(117, y117), (68, y68), (92, y92), (89, y89), (90, y90), (5, y5), (3, y3), (33, y33), (4, y4), (22, y22)] t
theorem ok58 : TysOk Tryd.prog tys58 := tysOk_of ⟨ty117, ty68, ty92, ty89, ty90, ty5, ty3, ty33, ty4, ty22, trivial⟩
end Go.Proofs.YtepfbdfbfimefaaDoor.Tysb
end
