/- The package: a text of base 58, read. -/
/- The types that some functions name, as the evaluator wants them. Printed by a program of my own (seatgen.py). -/
import Derived.Test.YtepfbdfbfimefaaDoorMBfg
import Derived.Test.YtepfbdfbfimefaaDoorMTyei
import Derived.Test.YtepfbdfbfimefaaDoorSl
import Derived.Test.YtepfbdfbfimefaaDoorProg
import Derived.KernelRfl
section
set_option linter.unusedSimpArgs false
set_option linter.unusedVariables false
namespace Go.Proofs.YtepfbdfbfimefaaDoor.Bf
open Go Go.Se Go.Proofs Go.Proofs.YtepfbdfbfimefaaDoor.Co Go.Proofs.YtepfbdfbfimefaaDoor.Ht Go.Proofs.YtepfbdfbfimefaaDoor.Tyei

/-- The package's table: what each byte stands for. -/
def t58 : List Int := (List.range 256).map fun (i : Nat) => ((dv (i : Int) : Nat) : Int)

theorem t58_get {i : Nat} (h : i < 256) : t58.getD i 0 = (dv (i : Int) : Nat) := by
  unfold t58
  rw [List.getD_eq_getElem?_getD, List.getElem?_map, List.getElem?_range h]
  rfl

/-- A text's first character: a byte below 128, or a character that is none. -/
theorem decode_lo {bs : ByteArray} {xs : List Int} (h : SB bs xs) {i : Nat} {d : Int} (hd : xs[i]? = some d) (h128 : d < 128) (h0 : 0 ≤ d) : Utf8.decode bs i = (d.toNat, 1) := by
  have h1 : (bs.get! (i + 0)).toNat = d.toNat := by
    have h2 : (byteCells bs)[i]? = some (.int .u8 d) := by rw [h]; simp [ints, hd]
    unfold byteCells at h2
    rw [List.getElem?_map, Option.map_eq_some_iff] at h2
    obtain ⟨x, hx, hxd⟩ := h2
    simp only [Value.int.injEq, true_and] at hxd
    have h3 : bs.get! i = x := by
      have h5 : bs.data[i]? = some x := by rw [← Array.getElem?_toList]; exact hx
      obtain ⟨h6, h7⟩ := Array.getElem?_eq_some_iff.1 h5
      show bs.data[i]! = x
      rw [getElem!_pos bs.data i h6]
      exact h7
    rw [Nat.add_zero, h3]
    omega
  unfold Utf8.decode
  simp only [h1]
  rw [if_pos (by omega)]

theorem decode_hi {bs : ByteArray} {xs : List Int} (h : SB bs xs) {i : Nat} {d : Int} (hd : xs[i]? = some d) (h128 : 128 ≤ d) : 128 ≤ (Utf8.decode bs i).1 := by
  have h1 : (bs.get! (i + 0)).toNat = d.toNat := by
    have h2 : (byteCells bs)[i]? = some (.int .u8 d) := by rw [h]; simp [ints, hd]
    unfold byteCells at h2
    rw [List.getElem?_map, Option.map_eq_some_iff] at h2
    obtain ⟨x, hx, hxd⟩ := h2
    simp only [Value.int.injEq, true_and] at hxd
    have h3 : bs.get! i = x := by
      have h5 : bs.data[i]? = some x := by rw [← Array.getElem?_toList]; exact hx
      obtain ⟨h6, h7⟩ := Array.getElem?_eq_some_iff.1 h5
      show bs.data[i]! = x
      rw [getElem!_pos bs.data i h6]
      exact h7
    rw [Nat.add_zero, h3]
    omega
  unfold Utf8.decode
  simp only [h1]
  rw [if_neg (by omega)]
  split
  · split
    · assumption
    · decide
  · split
    · split
      · rename_i h5
        simp only [ge_iff_le, Bool.and_eq_true, decide_eq_true_eq] at h5
        have := h5.1
        show 128 ≤ _
        omega
      · decide
    · split
      · split
        · rename_i h5
          simp only [ge_iff_le, Bool.and_eq_true, decide_eq_true_eq] at h5
          have := h5.1
          show 128 ≤ _
          omega
        · decide
      · decide

theorem dl_sz {v k : Nat} (h : v < 256 ^ k) : (dl v).length ≤ k := by
  by_cases h0 : v = 0
  · rw [h0, dl0]; simp
  · obtain ⟨h1, h2⟩ := dl_len v h0
    have := (Nat.pow_lt_pow_iff_right (by decide : 1 < 256)).1 (Nat.lt_of_le_of_lt h2 h)
    omega

theorem ones_rep (i : Nat) (t : List Int) : ones (List.replicate i 49 ++ t) = i + ones t := by
  induction i with
  | zero => simp
  | succ i ih => rw [List.replicate_succ, List.cons_append, ones, if_pos rfl, ih]; omega

structure Ldc3 where
  i : Int


structure Ldc1 where
  R : RO
  t : ByteArray
  a1 : Option Addr
  n1 : Nat
  c1 : Nat
  a2 : Option Addr
  n2 : Nat
  c2 : Nat

structure Ldc2 where
  n : Nat
  q : Int



set_option maxRecDepth 100000 in
set_option maxHeartbeats 4000000 in
theorem decodeI {P : Program} (hP : P = Tryd.prog) (R : RO) (hG : RI R .u8 (some ⟨1, 0, none⟩) 256 t58) (b : ByteArray) (xs : List Int) (hb : SB b xs) (hxb : ∀ x ∈ xs, 0 ≤ x ∧ x ≤ 255) (hn : xs.length ≤ 1000) :
    RetP P 16 [.string b] R fun R' r => ∃ a n c zs, r = .slice a n c ∧ n ≤ c ∧ RI R' .u8 a n zs ∧ (Good xs → zs = dec xs) ∧ (¬ Good xs → zs = []) := by
  subst hP
  have hsz := hb.size
  refine retP_vc (fz := []) Tryd.func16 rfl (by decide) rfl ok16 ?_
  intro P bin cmp cnv neg com bnot beq ofN toN at_ sub_ scmp cat sget ssz ssub elem fld_ hP hA
  conv => cbv
  refine newC hP R ?_
  intro Rc a0 n0 c0 hRc hr0 hc0
  conv => cbv
  obtain ⟨L, hL⟩ : ∃ L, L = xs.length := ⟨_, rfl⟩
  refine ⟨Ldc1, fun x => ⟨[(5, .v (.string x.t)), (3, .p 0 0), (4, .p 1 0), (0, .v (.string b))], x.R, [(1, ⟨50, [.v (.bool false), .v (.slice x.a2 x.n2 x.c2)]⟩), (0, ⟨50, [.v (.bool false), .v (.slice x.a1 x.n1 x.c1)]⟩)], 2, []⟩,
    fun m x => ∃ j : Nat, j ≤ L ∧ m = L - j ∧ R.le x.R ∧ SB x.t (xs.drop j) ∧ Good (xs.take j) ∧ RI x.R .u32 x.a1 x.n1 (cn (hx (xs.take j))) ∧ x.n1 ≤ x.c1,
    ⟨L, ⟨Rc, b, a0, n0, c0, none, 0, 0⟩, ⟨⟨rfl, rfl, rfl, rfl, trivial⟩, rfl, ⟨rfl, rfl, trivial⟩, rfl, .refl _⟩, 0, Nat.zero_le _, rfl, hRc, hb, good_nil, hr0, hc0⟩, ?_⟩
  rintro m ⟨R1, t, a1, n1, c1, a2, n2, c2⟩ ⟨j, hjL, hm, hR1, hts, hgj, hr1, hc1⟩
  simp only at hR1 hts hr1 hc1
  have htsz := hts.size
  rw [List.length_drop] at htsz
  have ot : ofN (ssz t) = ((L - j : Nat) : Int) := by rw [ofN_ hA, ssz_ hA, htsz, hL]
  have hG1 := hG.le hR1
  have hn1 : n1 ≤ 1000 := by
    rw [hr1.len]
    refine Nat.le_trans (cn_le (k := j) ?_) (by omega)
    have h1 := good_lt hgj
    rw [List.length_take] at h1
    exact Nat.lt_of_lt_of_le h1 (Nat.le_trans (Nat.pow_le_pow_left (by decide) _) (Nat.pow_le_pow_right (by decide) (by omega)))
  conv => cbv
  by_cases hjl : j < L
  case neg =>
    refine br_f (by rw [ot, cmp_gtr hA]; simp; omega) ?_
    conv => cbv
    obtain rfl : j = L := by omega
    rw [List.take_of_length_le (by omega)] at hr1 hgj
    have hV := good_lt hgj
    have hdl : (dl (hx xs)).length ≤ 1000 := Nat.le_trans (dl_sz (k := xs.length) (Nat.lt_of_lt_of_le hV (Nat.pow_le_pow_left (by decide) _))) hn
    refine bytesC hP R1 a1 n1 c1 (hx xs) hr1 hc1 (by omega) (by omega) a2 n2 c2 ?_
    intro ab Lb zs hLb hzs
    conv => cbv
    have oLb := ofN_ hA Lb
    have ob : ofN (ssz b) = (j : Int) := by rw [ofN_ hA, ssz_ hA, hsz, hL]
    refine ⟨Ldc3, fun x => ⟨[(12, .v (.int .i64 x.i)), (0, .v (.string b)), (11, .v (.slice (some ab) Lb Lb))], R1, [], 2, [⟨some ab, Lb, Lb, 5, 1, zs⟩]⟩,
      fun m x => ∃ i : Nat, x.i = i ∧ i ≤ j ∧ m = j - i ∧ xs = List.replicate i 49 ++ xs.drop i,
      ⟨j, ⟨0⟩, ⟨⟨rfl, rfl, rfl, trivial⟩, rfl, trivial, rfl, .refl _⟩, 0, rfl, Nat.zero_le _, rfl, rfl⟩, ?_⟩
    rintro m2 ⟨ii⟩ ⟨i, hi, hij, hm2, hxi⟩
    simp only at hi
    conv => cbv
    by_cases hlt : i < j
    case neg =>
      have hon : ones xs = i := by
        have h1 := ones_rep i (xs.drop i)
        rw [← hxi, List.drop_of_length_le (by omega)] at h1
        exact h1
      refine br_f (by rw [ob, cmp_lss hA]; simp; omega) ?_
      conv => cbv
      obtain ⟨F, hF⟩ : ∃ F, F = i + Lb := ⟨_, rfl⟩
      have eF : bin .add .i64 ii (ofN Lb) = (F : Int) := by rw [hi, oLb, add_i64 hA (by omega)]; omega
      refine ⟨by rw [eF]; omega, by rw [eF]; omega, by rw [eF]; omega, by rw [eF]; omega, ?_⟩
      intro av nv_ cv zv hnv hcv hzv
      rw [eF] at hnv hcv
      obtain rfl : F = nv_ := by omega
      obtain rfl : F = cv := by omega
      rw [zeros] at hzv
      conv => cbv
      refine ⟨i, F, hi.symm, rfl, by omega, Nat.le_refl _, ?_⟩
      intro a5 n5 c5 hn5 hc5 ha5
      conv => cbv
      have hdec : dec xs = List.replicate i 0 ++ (dl (hx xs)).reverse := by rw [dec, hon]
      have hw : By (dec xs) := fun y hy => by
        rw [hdec] at hy
        rcases List.mem_append.1 hy with hy | hy
        · rw [List.eq_of_mem_replicate hy]; decide
        · exact dl_wf _ y (List.mem_reverse.1 hy)
      have hdl2 : (dec xs).length = F := by rw [hdec, List.length_append, List.length_replicate, List.length_reverse, ← hLb, hF]
      have hzsl : zs.length = Lb := by rw [hzs, ints_len, List.length_reverse, hLb]
      refine ⟨Lb, zs, src_row (r := ⟨some ab, Lb, Lb, 5, 1, zs⟩) (List.mem_cons_of_mem _ (List.mem_cons_self ..)) (fun _ => rfl) (by show zs.length = _; rw [hzsl, Nat.mul_one]) (by show ∀ v ∈ zs, _; rw [hzs]; exact ints_one _ _), ?_⟩
      by_cases hLb0 : Lb = 0
      · refine .inl ⟨by omega, ?_⟩
        conv => cbv
        intro ρ R'' hle hpub hpr
        have hz0 : zv = ints .u8 (dec xs) := by
          rw [hzv, hdec, List.eq_nil_of_length_eq_zero (l := (dl (hx xs)).reverse) (by rw [List.length_reverse]; omega), List.append_nil, show F = i by omega]
        exact ⟨some av, F, F, dec xs, rfl, Nat.le_refl _, (hpr _ (List.mem_cons_self ..)).ri hdl2.symm (fun _ => rfl) rfl hz0 hw.wf, fun _ => rfl, fun h => absurd hgj h⟩
      · refine .inr ⟨0, _, av, i, av.add i, by rw [ha5, if_neg (by omega), Option.map_some, Nat.mul_one], rfl, rfl, rfl, by show i + min Lb n5 * 1 ≤ zv.length; rw [hzv, ints_len, List.length_replicate]; omega, ?_⟩
        intro n6 z6 hn6 hz6
        conv => cbv
        intro ρ R'' hle hpub hpr
        have hz0 : z6 = ints .u8 (dec xs) := by
          rw [hz6]
          show List.take i zv ++ List.take (n6 * 1) zs ++ List.drop (i + n6 * 1) zv = _
          have e6 : n6 = Lb := by omega
          rw [e6, Nat.mul_one, List.take_of_length_le (l := zs) (by omega), hzs, hzv, hdec, ← ints_app]
          have e1 : List.drop (i + Lb) (ints .u8 (List.replicate F 0)) = [] := List.drop_of_length_le (by rw [ints_len, List.length_replicate]; omega)
          rw [e1, List.append_nil]
          congr 1
          rw [ints, ← List.map_take, List.take_replicate, show min i F = i by omega]
          rfl
        exact ⟨some av, F, F, dec xs, rfl, Nat.le_refl _, (hpr _ (List.mem_cons_self ..)).ri hdl2.symm (fun _ => rfl) rfl hz0 hw.wf, fun _ => rfl, fun h => absurd hgj h⟩
    refine br_t (by rw [ob, cmp_lss hA]; simp; omega) ?_
    conv => cbv
    obtain ⟨d, hd⟩ : ∃ d, xs[i]? = some d := ⟨_, List.getElem?_eq_getElem (by omega)⟩
    have hget : sget b ii = d := sb_get hA hb i hi hd
    have hi2 : i < xs.length := by rw [← hL]; exact hlt
    refine ⟨⟨by omega, by rw [hsz, hi]; exact Int.ofNat_lt.2 hi2⟩, ?_⟩
    by_cases hz : d = 49
    case neg =>
      have hon : ones xs = i := by
        have h1 := ones_rep i (xs.drop i)
        rw [← hxi, drop_get hd, ones, if_neg hz] at h1
        exact h1
      refine br_t (by rw [hget, cmp_neq hA]; simpa using hz) ?_
      conv => cbv
      obtain ⟨F, hF⟩ : ∃ F, F = i + Lb := ⟨_, rfl⟩
      have eF : bin .add .i64 ii (ofN Lb) = (F : Int) := by rw [hi, oLb, add_i64 hA (by omega)]; omega
      refine ⟨by rw [eF]; omega, by rw [eF]; omega, by rw [eF]; omega, by rw [eF]; omega, ?_⟩
      intro av nv_ cv zv hnv hcv hzv
      rw [eF] at hnv hcv
      obtain rfl : F = nv_ := by omega
      obtain rfl : F = cv := by omega
      rw [zeros] at hzv
      conv => cbv
      refine ⟨i, F, hi.symm, rfl, by omega, Nat.le_refl _, ?_⟩
      intro a5 n5 c5 hn5 hc5 ha5
      conv => cbv
      have hdec : dec xs = List.replicate i 0 ++ (dl (hx xs)).reverse := by rw [dec, hon]
      have hw : By (dec xs) := fun y hy => by
        rw [hdec] at hy
        rcases List.mem_append.1 hy with hy | hy
        · rw [List.eq_of_mem_replicate hy]; decide
        · exact dl_wf _ y (List.mem_reverse.1 hy)
      have hdl2 : (dec xs).length = F := by rw [hdec, List.length_append, List.length_replicate, List.length_reverse, ← hLb, hF]
      have hzsl : zs.length = Lb := by rw [hzs, ints_len, List.length_reverse, hLb]
      refine ⟨Lb, zs, src_row (r := ⟨some ab, Lb, Lb, 5, 1, zs⟩) (List.mem_cons_of_mem _ (List.mem_cons_self ..)) (fun _ => rfl) (by show zs.length = _; rw [hzsl, Nat.mul_one]) (by show ∀ v ∈ zs, _; rw [hzs]; exact ints_one _ _), ?_⟩
      by_cases hLb0 : Lb = 0
      · refine .inl ⟨by omega, ?_⟩
        conv => cbv
        intro ρ R'' hle hpub hpr
        have hz0 : zv = ints .u8 (dec xs) := by
          rw [hzv, hdec, List.eq_nil_of_length_eq_zero (l := (dl (hx xs)).reverse) (by rw [List.length_reverse]; omega), List.append_nil, show F = i by omega]
        exact ⟨some av, F, F, dec xs, rfl, Nat.le_refl _, (hpr _ (List.mem_cons_self ..)).ri hdl2.symm (fun _ => rfl) rfl hz0 hw.wf, fun _ => rfl, fun h => absurd hgj h⟩
      · refine .inr ⟨0, _, av, i, av.add i, by rw [ha5, if_neg (by omega), Option.map_some, Nat.mul_one], rfl, rfl, rfl, by show i + min Lb n5 * 1 ≤ zv.length; rw [hzv, ints_len, List.length_replicate]; omega, ?_⟩
        intro n6 z6 hn6 hz6
        conv => cbv
        intro ρ R'' hle hpub hpr
        have hz0 : z6 = ints .u8 (dec xs) := by
          rw [hz6]
          show List.take i zv ++ List.take (n6 * 1) zs ++ List.drop (i + n6 * 1) zv = _
          have e6 : n6 = Lb := by omega
          rw [e6, Nat.mul_one, List.take_of_length_le (l := zs) (by omega), hzs, hzv, hdec, ← ints_app]
          have e1 : List.drop (i + Lb) (ints .u8 (List.replicate F 0)) = [] := List.drop_of_length_le (by rw [ints_len, List.length_replicate]; omega)
          rw [e1, List.append_nil]
          congr 1
          rw [ints, ← List.map_take, List.take_replicate, show min i F = i by omega]
          rfl
        exact ⟨some av, F, F, dec xs, rfl, Nat.le_refl _, (hpr _ (List.mem_cons_self ..)).ri hdl2.symm (fun _ => rfl) rfl hz0 hw.wf, fun _ => rfl, fun h => absurd hgj h⟩
    refine br_f (by rw [hget, cmp_neq hA]; simpa using hz) ?_
    conv => cbv
    refine ⟨j - (i + 1), ⟨bin .add .i64 ii 1⟩, by omega, ⟨⟨rfl, rfl, rfl, trivial⟩, rfl, trivial, rfl, .refl _⟩, i + 1, by show bin .add .i64 ii 1 = _; rw [hi, add_i64 hA (by omega)]; rfl, by omega, rfl, ?_⟩
    have h1 : List.replicate (i + 1) (49 : Int) = List.replicate i 49 ++ [49] := List.replicate_succ' ..
    rw [h1, List.append_assoc]
    have h2 := drop_get hd
    rw [hz] at h2
    rw [List.singleton_append, ← h2]
    exact hxi
  refine br_t (by rw [ot, cmp_gtr hA]; simp; omega) ?_
  conv => cbv
  by_cases h10 : 10 < L - j
  · refine br_t (by rw [ot, cmp_gtr hA]; simp; omega) ?_
    conv => cbv
    obtain ⟨k, hk'⟩ : ∃ k : Nat, k = 10 := ⟨_, rfl⟩
    have hk : (10 : Int) = (k : Int) := by omega
    have hkk : 1 ≤ k ∧ k ≤ 10 ∧ k ≤ L - j := by omega
    refine ⟨0, k, rfl, hk.symm, Nat.zero_le _, by omega, ?_⟩
    intro y hy
    have hys : SB y ((xs.drop j).take k) := by
      have h1 := hts.ext 0 k
      rw [List.drop_zero, Nat.sub_zero] at h1
      rw [hy]
      exact h1
    have hysz := hys.size
    rw [List.length_take, List.length_drop] at hysz
    conv => cbv
    refine gen_range rfl rfl (by rw [hP]; exact Tryd.underlying9) ?_
    intro A ec hec
    conv => cbv
    refine ⟨Ldc2, fun x => ⟨[(28, .v (.pointer (some A))), (7, .v (.int .u64 x.q)), (6, .v (.int .i64 (10))), (5, .v (.string t)), (3, .p 0 0), (4, .p 1 0), (0, .v (.string b))], R1, [(1, ⟨50, [.v (.bool false), .v (.slice a2 n2 c2)]⟩), (0, ⟨50, [.v (.bool false), .v (.slice a1 n1 c1)]⟩)], 2, [⟨some A, x.n, 0, ec, 4096, []⟩]⟩,
      fun m x => ∃ i q : Nat, x.n = i + 1 ∧ i ≤ k ∧ m = k - i ∧ x.q = q ∧ q = hx ((xs.drop j).take i) ∧ Good ((xs.drop j).take i),
      ⟨k, ⟨1, 0⟩, ⟨⟨rfl, rfl, rfl, rfl, rfl, rfl, rfl, trivial⟩, rfl, ⟨rfl, rfl, trivial⟩, rfl, .refl _⟩, 0, 0, rfl, Nat.zero_le _, rfl, rfl, rfl, good_nil⟩, ?_⟩
    rintro m2 ⟨ni, qi⟩ ⟨i, q, hni, hik, hm2, hqi, hq, hgi⟩
    simp only at hni hqi
    conv => cbv
    refine gen_next rfl rfl 0 ⟨some A, ni, 0, ec, 4096, []⟩ rfl rfl rfl rfl hni hec (fun hlt => ?_) (fun hlt => ?_)
    · intro n' p c hn' hp hc
      conv => cbv
      obtain ⟨d, hd⟩ : ∃ d, ((xs.drop j).take k)[i]? = some d := ⟨_, List.getElem?_eq_getElem (by rw [List.length_take, List.length_drop]; omega)⟩
      have hdx : xs[j + i]? = some d := by
        rw [List.getElem?_take, if_pos (by omega), List.getElem?_drop] at hd
        exact hd
      have hdb := hxb d (List.mem_of_getElem? hdx)
      have hcl : ∀ cc : Int, 128 ≤ cc → dv cc = 255 := fun cc h => dv_big (by omega)
      by_cases h128 : d < 128
      case neg =>
        have hc128 := decode_hi hys hd (by omega)
        have hbad : ¬ Good xs := fun hG => hG d (List.mem_of_getElem? hdx) (hcl d (by omega))
        by_cases h255 : 255 < c
        · refine br_t (by rw [cmp_gtr hA]; simpa using h255) ?_
          conv => cbv
          refine gen_strish rfl rfl rfl (by rw [hP]; exact Tryd.underlying22) (by rw [hP]; exact Tryd.underlying5) ?_
          conv => cbv
          intro ρ R'' hle _ _
          exact ⟨some ⟨ρ 2, 0, none⟩, 0, 0, [], rfl, Nat.le_refl _, ⟨rfl, fun i h0 h1 => by omega, fun x hx => by cases hx⟩, fun h => absurd h hbad, fun _ => rfl⟩
        refine br_f (by rw [cmp_gtr hA]; simpa using h255) ?_
        conv => cbv
        have o256 := ofN_ hA 256
        refine ix_ri hG1 o256 c.toNat (by omega) (by omega) ?_
        refine ld_u8 hA hG1 (by omega) (by omega) ?_
        intro e he _ _
        have he5 : e = 255 := by
          rw [he, t58_get (by omega), hcl _ (by omega)]
          rfl
        conv => cbv
        refine br_t (by rw [cmp_eql hA, he5]; rfl) ?_
        conv => cbv
        refine gen_strish rfl rfl rfl (by rw [hP]; exact Tryd.underlying22) (by rw [hP]; exact Tryd.underlying5) ?_
        conv => cbv
        intro ρ R'' hle _ _
        exact ⟨some ⟨ρ 2, 0, none⟩, 0, 0, [], rfl, Nat.le_refl _, ⟨rfl, fun i h0 h1 => by omega, fun x hx => by cases hx⟩, fun h => absurd h hbad, fun _ => rfl⟩
      have hdec := decode_lo hys hd h128 hdb.1
      rw [hdec] at hn' hc
      have hcd : c = d := by rw [hc]; show ((d.toNat : Nat) : Int) = d; omega
      refine br_f (by rw [cmp_gtr hA]; simp; omega) ?_
      conv => cbv
      have o256 := ofN_ hA 256
      refine ix_ri hG1 o256 d.toNat (by omega) (by omega) ?_
      refine ld_u8 hA hG1 (by omega) (by omega) ?_
      intro e he _ _
      have he5 : e = (dv d : Nat) := by
        rw [he, hcd, t58_get (by omega)]
        congr 2
        omega
      conv => cbv
      by_cases hdv : dv d = 255
      · have hbad : ¬ Good xs := fun hG => hG d (List.mem_of_getElem? hdx) hdv
        refine br_t (by rw [cmp_eql hA, he5, hdv]; rfl) ?_
        conv => cbv
        refine gen_strish rfl rfl rfl (by rw [hP]; exact Tryd.underlying22) (by rw [hP]; exact Tryd.underlying5) ?_
        conv => cbv
        intro ρ R'' hle _ _
        exact ⟨some ⟨ρ 2, 0, none⟩, 0, 0, [], rfl, Nat.le_refl _, ⟨rfl, fun i h0 h1 => by omega, fun x hx => by cases hx⟩, fun h => absurd h hbad, fun _ => rfl⟩
      have hdl := dv_lt hdv
      refine br_f (by rw [cmp_eql hA, he5]; simp; omega) ?_
      conv => cbv
      have htk : (xs.drop j).take (i + 1) = (xs.drop j).take i ++ [d] := by
        rw [List.take_add_one, List.getElem?_drop, hdx]
        rfl
      have hql : q < 58 ^ i := by
        have h1 := good_lt hgi
        rw [← hq, List.length_take, List.length_drop] at h1
        exact Nat.lt_of_lt_of_le h1 (Nat.pow_le_pow_right (by decide) (by omega))
      have hq9 : q < 58 ^ 9 := Nat.lt_of_lt_of_le hql (Nat.pow_le_pow_right (by decide) (by omega))
      have h589 : (58 : Nat) ^ 9 = 7427658739644928 := by decide
      rw [h589] at hq9
      have eq2 : bin .add .u64 (bin .mul .u64 qi 58) (cnv .u64 e) = ((q * 58 + dv d : Nat) : Int) := by
        have e1 : bin .mul .u64 qi 58 = ((q * 58 : Nat) : Int) := by rw [hqi, mul_u64 hA (by omega)]; omega
        rw [e1, he5, cnv_u64 hA (by omega), add_u64 hA (by omega)]
        omega
      refine ⟨k - (i + 1), ⟨n', bin .add .u64 (bin .mul .u64 qi 58) (cnv .u64 e)⟩, by omega, ⟨⟨rfl, rfl, rfl, rfl, rfl, rfl, rfl, trivial⟩, rfl, ⟨rfl, rfl, trivial⟩, rfl, .refl _⟩, i + 1, q * 58 + dv d, hn', by omega, rfl, eq2, ?_, ?_⟩
      · rw [htk, hx_snoc, ← hq]
      · rw [htk]
        exact good_app hgi (good_one hdv)
    conv => cbv
    obtain rfl : i = k := by omega
    have hql : q < 18446744073709551616 := by
      have h1 := good_lt hgi
      rw [← hq, List.length_take, List.length_drop] at h1
      have h2 : 58 ^ min i (xs.length - j) ≤ 58 ^ 10 := Nat.pow_le_pow_right (by decide) (by omega)
      have h3 : (58 : Nat) ^ 10 = 430804206899405824 := by decide
      rw [h3] at h2
      omega
    obtain ⟨Y, hY⟩ : ∃ Y, Y = 58 ^ i := ⟨_, rfl⟩
    refine (bigRadixP hP R1 i (10) hk hkk.1 hkk.2.1 Y hY).callP rfl ?_
    rintro R2 yv hR2 hyv
    conv => cbv
    have hYl : (cn Y).length ≤ 10 := by
      refine Nat.le_trans (cn_le (k := i) ?_) hkk.2.1
      rw [hY]
      exact Nat.pow_lt_pow_left (by decide) (by omega)
    refine mulC hP R2 _ yv (hx (xs.take j)) Y a1 n1 c1 (hr1.le hR2) (by omega) hyv (by omega) ⟨50, [.v (.bool false), .v (.slice a2 n2 c2)]⟩ ?_
    intro R3 b1 m1 k1 hR3 hr3 hk1
    conv => cbv
    refine setUC hP R3 _ q qi hqi hql a2 n2 c2 ⟨50, [.v (.bool false), .v (.slice b1 m1 k1)]⟩ ?_
    intro R4 b2 m2' k2 hR4 hr4 hk2
    have hval : hx (xs.take (j + i)) = hx (xs.take j) * Y + q := by
      rw [List.take_add, hx_app, hY, hq]
      congr 2
      rw [List.length_take, List.length_drop]
      congr 1
      omega
    have hm1 : m1 ≤ 10000 := by
      rw [hr3.len]
      refine Nat.le_trans (cn_le (k := j + i) ?_) (by omega)
      have h1 := good_lt hgj
      rw [List.length_take] at h1
      have h2 : hx (xs.take j) < 58 ^ j := Nat.lt_of_lt_of_le h1 (Nat.pow_le_pow_right (by decide) (by omega))
      have h3 : hx (xs.take j) * Y < 58 ^ (j + i) := by
        rw [hY, Nat.pow_add]
        exact Nat.mul_lt_mul_of_pos_right h2 (Nat.pow_pos (by decide))
      exact Nat.lt_of_lt_of_le h3 (Nat.pow_le_pow_left (by decide) _)
    have hm2' : m2' ≤ 10000 := by
      rw [hr4.len]
      exact Nat.le_trans (cn_le (k := 2) (by omega)) (by decide)
    conv => cbv
    refine addC hP R4 _ _ _ b1 m1 k1 (hr3.le hR4) hm1 b2 m2' k2 hr4 hm2' ?_
    intro R5 b3 m3 k3 hR5 hr5 hk3
    rw [← hval] at hr5
    conv => cbv
    refine ⟨i, t.size, hk.symm, rfl, by omega, Nat.le_refl _, ?_⟩
    intro t2 ht2
    have hts2 : SB t2 (xs.drop (j + i)) := by
      have h1 := hts.ext i t.size
      rw [List.drop_drop, List.take_of_length_le (by rw [List.length_drop]; omega)] at h1
      rw [ht2]
      exact h1
    have htk2 : xs.take (j + i) = xs.take j ++ (xs.drop j).take i := List.take_add
    conv => cbv
    exact ⟨L - (j + i), ⟨R5, t2, b3, m3, k3, b2, m2', k2⟩, by omega, ⟨⟨rfl, rfl, rfl, rfl, trivial⟩, rfl, ⟨rfl, rfl, trivial⟩, rfl, List.nil_sublist _⟩, j + i, by omega, rfl, RO.le_trans hR1 (RO.le_trans hR2 (RO.le_trans hR3 (RO.le_trans hR4 hR5))), hts2, by rw [htk2]; exact good_app hgj hgi, hr5, hk3⟩
  · refine br_f (by rw [ot, cmp_gtr hA]; simp; omega) ?_
    conv => cbv
    obtain ⟨k, hk'⟩ : ∃ k : Nat, k = L - j := ⟨_, rfl⟩
    have hk : ofN (ssz t) = (k : Int) := by rw [ot, hk']
    have hkk : 1 ≤ k ∧ k ≤ 10 ∧ k ≤ L - j := by omega
    refine ⟨0, k, rfl, hk.symm, Nat.zero_le _, by omega, ?_⟩
    intro y hy
    have hys : SB y ((xs.drop j).take k) := by
      have h1 := hts.ext 0 k
      rw [List.drop_zero, Nat.sub_zero] at h1
      rw [hy]
      exact h1
    have hysz := hys.size
    rw [List.length_take, List.length_drop] at hysz
    conv => cbv
    refine gen_range rfl rfl (by rw [hP]; exact Tryd.underlying9) ?_
    intro A ec hec
    conv => cbv
    refine ⟨Ldc2, fun x => ⟨[(28, .v (.pointer (some A))), (7, .v (.int .u64 x.q)), (6, .v (.int .i64 ((ofN (ssz t))))), (5, .v (.string t)), (3, .p 0 0), (4, .p 1 0), (0, .v (.string b))], R1, [(1, ⟨50, [.v (.bool false), .v (.slice a2 n2 c2)]⟩), (0, ⟨50, [.v (.bool false), .v (.slice a1 n1 c1)]⟩)], 2, [⟨some A, x.n, 0, ec, 4096, []⟩]⟩,
      fun m x => ∃ i q : Nat, x.n = i + 1 ∧ i ≤ k ∧ m = k - i ∧ x.q = q ∧ q = hx ((xs.drop j).take i) ∧ Good ((xs.drop j).take i),
      ⟨k, ⟨1, 0⟩, ⟨⟨rfl, rfl, rfl, rfl, rfl, rfl, rfl, trivial⟩, rfl, ⟨rfl, rfl, trivial⟩, rfl, .refl _⟩, 0, 0, rfl, Nat.zero_le _, rfl, rfl, rfl, good_nil⟩, ?_⟩
    rintro m2 ⟨ni, qi⟩ ⟨i, q, hni, hik, hm2, hqi, hq, hgi⟩
    simp only at hni hqi
    conv => cbv
    refine gen_next rfl rfl 0 ⟨some A, ni, 0, ec, 4096, []⟩ rfl rfl rfl rfl hni hec (fun hlt => ?_) (fun hlt => ?_)
    · intro n' p c hn' hp hc
      conv => cbv
      obtain ⟨d, hd⟩ : ∃ d, ((xs.drop j).take k)[i]? = some d := ⟨_, List.getElem?_eq_getElem (by rw [List.length_take, List.length_drop]; omega)⟩
      have hdx : xs[j + i]? = some d := by
        rw [List.getElem?_take, if_pos (by omega), List.getElem?_drop] at hd
        exact hd
      have hdb := hxb d (List.mem_of_getElem? hdx)
      have hcl : ∀ cc : Int, 128 ≤ cc → dv cc = 255 := fun cc h => dv_big (by omega)
      by_cases h128 : d < 128
      case neg =>
        have hc128 := decode_hi hys hd (by omega)
        have hbad : ¬ Good xs := fun hG => hG d (List.mem_of_getElem? hdx) (hcl d (by omega))
        by_cases h255 : 255 < c
        · refine br_t (by rw [cmp_gtr hA]; simpa using h255) ?_
          conv => cbv
          refine gen_strish rfl rfl rfl (by rw [hP]; exact Tryd.underlying22) (by rw [hP]; exact Tryd.underlying5) ?_
          conv => cbv
          intro ρ R'' hle _ _
          exact ⟨some ⟨ρ 2, 0, none⟩, 0, 0, [], rfl, Nat.le_refl _, ⟨rfl, fun i h0 h1 => by omega, fun x hx => by cases hx⟩, fun h => absurd h hbad, fun _ => rfl⟩
        refine br_f (by rw [cmp_gtr hA]; simpa using h255) ?_
        conv => cbv
        have o256 := ofN_ hA 256
        refine ix_ri hG1 o256 c.toNat (by omega) (by omega) ?_
        refine ld_u8 hA hG1 (by omega) (by omega) ?_
        intro e he _ _
        have he5 : e = 255 := by
          rw [he, t58_get (by omega), hcl _ (by omega)]
          rfl
        conv => cbv
        refine br_t (by rw [cmp_eql hA, he5]; rfl) ?_
        conv => cbv
        refine gen_strish rfl rfl rfl (by rw [hP]; exact Tryd.underlying22) (by rw [hP]; exact Tryd.underlying5) ?_
        conv => cbv
        intro ρ R'' hle _ _
        exact ⟨some ⟨ρ 2, 0, none⟩, 0, 0, [], rfl, Nat.le_refl _, ⟨rfl, fun i h0 h1 => by omega, fun x hx => by cases hx⟩, fun h => absurd h hbad, fun _ => rfl⟩
      have hdec := decode_lo hys hd h128 hdb.1
      rw [hdec] at hn' hc
      have hcd : c = d := by rw [hc]; show ((d.toNat : Nat) : Int) = d; omega
      refine br_f (by rw [cmp_gtr hA]; simp; omega) ?_
      conv => cbv
      have o256 := ofN_ hA 256
      refine ix_ri hG1 o256 d.toNat (by omega) (by omega) ?_
      refine ld_u8 hA hG1 (by omega) (by omega) ?_
      intro e he _ _
      have he5 : e = (dv d : Nat) := by
        rw [he, hcd, t58_get (by omega)]
        congr 2
        omega
      conv => cbv
      by_cases hdv : dv d = 255
      · have hbad : ¬ Good xs := fun hG => hG d (List.mem_of_getElem? hdx) hdv
        refine br_t (by rw [cmp_eql hA, he5, hdv]; rfl) ?_
        conv => cbv
        refine gen_strish rfl rfl rfl (by rw [hP]; exact Tryd.underlying22) (by rw [hP]; exact Tryd.underlying5) ?_
        conv => cbv
        intro ρ R'' hle _ _
        exact ⟨some ⟨ρ 2, 0, none⟩, 0, 0, [], rfl, Nat.le_refl _, ⟨rfl, fun i h0 h1 => by omega, fun x hx => by cases hx⟩, fun h => absurd h hbad, fun _ => rfl⟩
      have hdl := dv_lt hdv
      refine br_f (by rw [cmp_eql hA, he5]; simp; omega) ?_
      conv => cbv
      have htk : (xs.drop j).take (i + 1) = (xs.drop j).take i ++ [d] := by
        rw [List.take_add_one, List.getElem?_drop, hdx]
        rfl
      have hql : q < 58 ^ i := by
        have h1 := good_lt hgi
        rw [← hq, List.length_take, List.length_drop] at h1
        exact Nat.lt_of_lt_of_le h1 (Nat.pow_le_pow_right (by decide) (by omega))
      have hq9 : q < 58 ^ 9 := Nat.lt_of_lt_of_le hql (Nat.pow_le_pow_right (by decide) (by omega))
      have h589 : (58 : Nat) ^ 9 = 7427658739644928 := by decide
      rw [h589] at hq9
      have eq2 : bin .add .u64 (bin .mul .u64 qi 58) (cnv .u64 e) = ((q * 58 + dv d : Nat) : Int) := by
        have e1 : bin .mul .u64 qi 58 = ((q * 58 : Nat) : Int) := by rw [hqi, mul_u64 hA (by omega)]; omega
        rw [e1, he5, cnv_u64 hA (by omega), add_u64 hA (by omega)]
        omega
      refine ⟨k - (i + 1), ⟨n', bin .add .u64 (bin .mul .u64 qi 58) (cnv .u64 e)⟩, by omega, ⟨⟨rfl, rfl, rfl, rfl, rfl, rfl, rfl, trivial⟩, rfl, ⟨rfl, rfl, trivial⟩, rfl, .refl _⟩, i + 1, q * 58 + dv d, hn', by omega, rfl, eq2, ?_, ?_⟩
      · rw [htk, hx_snoc, ← hq]
      · rw [htk]
        exact good_app hgi (good_one hdv)
    conv => cbv
    obtain rfl : i = k := by omega
    have hql : q < 18446744073709551616 := by
      have h1 := good_lt hgi
      rw [← hq, List.length_take, List.length_drop] at h1
      have h2 : 58 ^ min i (xs.length - j) ≤ 58 ^ 10 := Nat.pow_le_pow_right (by decide) (by omega)
      have h3 : (58 : Nat) ^ 10 = 430804206899405824 := by decide
      rw [h3] at h2
      omega
    obtain ⟨Y, hY⟩ : ∃ Y, Y = 58 ^ i := ⟨_, rfl⟩
    refine (bigRadixP hP R1 i ((ofN (ssz t))) hk hkk.1 hkk.2.1 Y hY).callP rfl ?_
    rintro R2 yv hR2 hyv
    conv => cbv
    have hYl : (cn Y).length ≤ 10 := by
      refine Nat.le_trans (cn_le (k := i) ?_) hkk.2.1
      rw [hY]
      exact Nat.pow_lt_pow_left (by decide) (by omega)
    refine mulC hP R2 _ yv (hx (xs.take j)) Y a1 n1 c1 (hr1.le hR2) (by omega) hyv (by omega) ⟨50, [.v (.bool false), .v (.slice a2 n2 c2)]⟩ ?_
    intro R3 b1 m1 k1 hR3 hr3 hk1
    conv => cbv
    refine setUC hP R3 _ q qi hqi hql a2 n2 c2 ⟨50, [.v (.bool false), .v (.slice b1 m1 k1)]⟩ ?_
    intro R4 b2 m2' k2 hR4 hr4 hk2
    have hval : hx (xs.take (j + i)) = hx (xs.take j) * Y + q := by
      rw [List.take_add, hx_app, hY, hq]
      congr 2
      rw [List.length_take, List.length_drop]
      congr 1
      omega
    have hm1 : m1 ≤ 10000 := by
      rw [hr3.len]
      refine Nat.le_trans (cn_le (k := j + i) ?_) (by omega)
      have h1 := good_lt hgj
      rw [List.length_take] at h1
      have h2 : hx (xs.take j) < 58 ^ j := Nat.lt_of_lt_of_le h1 (Nat.pow_le_pow_right (by decide) (by omega))
      have h3 : hx (xs.take j) * Y < 58 ^ (j + i) := by
        rw [hY, Nat.pow_add]
        exact Nat.mul_lt_mul_of_pos_right h2 (Nat.pow_pos (by decide))
      exact Nat.lt_of_lt_of_le h3 (Nat.pow_le_pow_left (by decide) _)
    have hm2' : m2' ≤ 10000 := by
      rw [hr4.len]
      exact Nat.le_trans (cn_le (k := 2) (by omega)) (by decide)
    conv => cbv
    refine addC hP R4 _ _ _ b1 m1 k1 (hr3.le hR4) hm1 b2 m2' k2 hr4 hm2' ?_
    intro R5 b3 m3 k3 hR5 hr5 hk3
    rw [← hval] at hr5
    conv => cbv
    refine ⟨i, t.size, hk.symm, rfl, by omega, Nat.le_refl _, ?_⟩
    intro t2 ht2
    have hts2 : SB t2 (xs.drop (j + i)) := by
      have h1 := hts.ext i t.size
      rw [List.drop_drop, List.take_of_length_le (by rw [List.length_drop]; omega)] at h1
      rw [ht2]
      exact h1
    have htk2 : xs.take (j + i) = xs.take j ++ (xs.drop j).take i := List.take_add
    conv => cbv
    exact ⟨L - (j + i), ⟨R5, t2, b3, m3, k3, b2, m2', k2⟩, by omega, ⟨⟨rfl, rfl, rfl, rfl, trivial⟩, rfl, ⟨rfl, rfl, trivial⟩, rfl, List.nil_sublist _⟩, j + i, by omega, rfl, RO.le_trans hR1 (RO.le_trans hR2 (RO.le_trans hR3 (RO.le_trans hR4 hR5))), hts2, by rw [htk2]; exact good_app hgj hgi, hr5, hk3⟩
end Go.Proofs.YtepfbdfbfimefaaDoor.Bf
end
section
namespace Go.Proofs.YtepfbdfbfimefaaDoor.Tyek
open Go Go.Se Go.Proofs

/-- int -/
def y3 : Ty := ⟨.int .i64, 1, false, .int .i64 0, 8⟩
theorem ty3 : tyOf Tryd.prog 3 = some y3 := by kernel_rfl
/-- uint8 -/
def y5 : Ty := ⟨.int .u8, 1, false, .int .u8 0, 1⟩
theorem ty5 : tyOf Tryd.prog 5 = some y5 := by kernel_rfl
/-- string -/
def y9 : Ty := ⟨.str, 1, false, .string ByteArray.empty, 16⟩
theorem ty9 : tyOf Tryd.prog 9 = some y9 := by kernel_rfl
/-- []uint8 -/
def y22 : Ty := ⟨.slc 5, 1, false, .slice none 0 0, 24⟩
theorem ty22 : tyOf Tryd.prog 22 = some y22 := by kernel_rfl

/-- function 31: pub-mintmark/spec.place -/
def tys31 : Nat → Option Ty := fun t => find [(9, y9), (3, y3), (5, y5)] t
theorem ok31 : TysOk Tryd.prog tys31 := tysOk_of ⟨ty9, ty3, ty5, trivial⟩

/-- function 32: pub-mintmark/spec.plusSmall -/
def tys32 : Nat → Option Ty := fun t => find [(22, y22), (5, y5), (3, y3)] t
theorem ok32 : TysOk Tryd.prog tys32 := tysOk_of ⟨ty22, ty5, ty3, trivial⟩
end Go.Proofs.YtepfbdfbfimefaaDoor.Tyek
end
