/- The height of a coinbase: the script's beginning, by the reference; a number's bytes, by the package. -/
import Derived.Test.YtnlpjppjhikooaaSz
import Derived.Test.YtnlpjppjhikooaaSu
import Derived.Test.YtnlpjppjhikooaaHta
import Derived.Test.YtnlpjppjhikooaaTyht
set_option linter.unusedSimpArgs false
set_option linter.unusedVariables false
namespace Go.Proofs.Ytnlpjppjhikooaa.Ht
open Go Go.Se Go.Proofs Go.Proofs.Ytnlpjppjhikooaa.Tyht

theorem last_get : ∀ {l : List Int}, l ≠ [] → l[l.length - 1]? = some (l.getLastD 0)
  | [], h => absurd rfl h
  | [x], _ => rfl
  | x :: y :: l, _ => by
    have ih := last_get (l := y :: l) (List.cons_ne_nil _ _)
    simp only [List.length_cons, Nat.add_sub_cancel] at ih ⊢
    rw [List.getElem?_cons_succ, ih]
    rfl

theorem last_mem {l : List Int} (h : l ≠ []) : l.getLastD 0 ∈ l := List.mem_of_getElem? (last_get h)

structure Ll where
  cur : Int
  a : Option Addr
  n : Nat
  c : Nat
  zs : List Value
  rs : List Row


set_option maxRecDepth 100000 in
set_option maxHeartbeats 1000000 in
theorem heightS {P : Program} (hP : P = Try.prog) (R : RO) (h : Int) (v : Nat) (hv : h = v) (hlt : v < 2147483648) : RowP P 15 [.int .i32 h] R 5 1 (Bs .u8 (hs v)) := by
  subst hP
  refine rowP_vc (fz := []) Try.func15 rfl (by decide) rfl ok15 ?_
  intro P bin cmp cnv neg com bnot beq ofN toN at_ sub_ scmp cat sget ssz ssub elem fld_ hP hA
  conv => cbv
  by_cases h0 : v = 0
  · refine br_t (by rw [cmp_eql hA]; simp; omega) ?_
    conv => cbv
    refine fun _ => .inr (.inr ⟨0, 1, _, [.int .u8 0], rfl, rfl, rfl, rfl, rfl, by decide, ?_, ?_⟩)
    · rw [hs, if_pos h0]; rfl
    · rw [hs, if_pos h0]; rfl
  refine br_f (by rw [cmp_eql hA]; simp; omega) ?_
  conv => cbv
  by_cases h1 : v ≤ 16
  · refine br_t (by rw [cmp_leq hA]; simp; omega) ?_
    conv => cbv
    refine fun _ => .inr (.inr ⟨0, 1, _, [.int .u8 (cnv .u8 (bin .add .i32 80 h))], rfl, rfl, rfl, rfl, rfl, by decide, ?_, ?_⟩)
    · rw [hs, if_neg h0, if_pos h1]; rfl
    · rw [hs, if_neg h0, if_pos h1, add_i32 hA (by omega), cnv_u8 hA (by omega), hv]; rfl
  refine br_f (by rw [cmp_leq hA]; simp; omega) ?_
  conv => cbv
  refine ⟨Ll, fun x => ⟨[(4, .v (.int .i32 x.cur)), (3, .v (.slice x.a x.n x.c))], R, [], 0, x.rs⟩,
    fun m x => ∃ ys : List Int, x.cur = m ∧ m ≤ v ∧ ys ++ dl m = dl v ∧ Base1 x.rs [] x.a x.n x.c 5 1 x.zs ∧ Bs .u8 ys x.n x.zs ∧ (x.n ≠ 0 → x.a.isSome = true),
    ⟨v, ⟨h, none, 0, 0, [], []⟩, ⟨⟨rfl, rfl, trivial⟩, rfl, trivial, rfl, .refl _⟩, [], hv, by omega, rfl, Base1.nil, ⟨rfl, rfl⟩, fun e => absurd rfl e⟩, ?_⟩
  rintro m ⟨cur, a1, n1, c1, zs, rs⟩ ⟨ys, hcur, hm, hys, hb, ⟨hn1, hzs⟩, hsm⟩
  simp only at hcur hb hn1 hzs hsm
  have hyl : n1 ≤ (dl v).length := by rw [← hys, List.length_append]; omega
  have hfour : (dl v).length ≤ 4 := by
    have h5 := sn_b4 h0 hlt
    rw [sn] at h5
    split at h5
    · simp only [List.length_append, List.length_cons, List.length_nil] at h5; omega
    · omega
  conv => cbv
  by_cases hz : m = 0
  · refine br_f (by rw [cmp_gtr hA]; simp; omega) ?_
    conv => cbv
    obtain rfl : ys = dl v := by rw [hz, dl0, List.append_nil] at hys; exact hys
    have hne := dl_ne h0
    have hpos : 0 < (dl v).length := List.length_pos_iff.2 hne
    rcases hb with ⟨_, _, e, _⟩ | rfl
    · omega
    have o1 := ofN_ hA n1
    have es : bin .sub .i64 (ofN n1) 1 = ((n1 - 1 : Nat) : Int) := by rw [o1, sub_i64 hA (by omega)]; omega
    obtain ⟨a1, rfl⟩ := Option.isSome_iff_exists.1 (hsm (by omega))
    obtain ⟨L, hL⟩ : ∃ L, L = (dl v).getLastD 0 := ⟨_, rfl⟩
    have hLr := dl_wf v _ (last_mem hne)
    rw [← hL] at hLr
    refine ⟨by rw [es]; omega, by rw [es, o1]; omega, rfl, ?_⟩
    refine ld_row hA 0 (r := ⟨some a1, n1, c1, 5, 1, zs⟩) rfl rfl rfl (v := .int .u8 L) (by show zs[_]? = _; rw [es, hzs, ints, List.getElem?_map, show ((n1 - 1 : Nat) : Int).toNat = (dl v).length - 1 by omega, last_get hne, hL]; rfl) ?_
    conv => cbv
    by_cases h128 : 128 ≤ L
    · refine br_t (by rw [cmp_geq hA]; simp; omega) ?_
      conv => cbv
      refine ⟨n1, zs, _, _, _, 1, [.int .u8 0], .row 0 ⟨some a1, n1, c1, 5, 1, zs⟩ rfl rfl rfl, .refl _, .own _ _ _ _ _ _ rfl rfl rfl (by simp [Value.oneCell']), by omega, by omega, ?_⟩
      intro a2 n2 c2 z2 hn2 hz2 hs2
      conv => cbv
      have hsn : sn v = dl v ++ [0] := by rw [sn, if_pos (by rw [← hL]; exact h128)]
      have hz3 : z2 = ints .u8 (sn v) := by rw [hz2, hsn, hzs, ← ints_app]; rfl
      have hn3 : n2 = (sn v).length := by rw [hn2, hsn, hn1]; simp
      have o2 := ofN_ hA n2
      have hs5 := sn_b4 h0 hlt
      refine ⟨1, [.int .u8 (cnv .u8 (ofN n2))], _, _, _, n2, z2, .own _ 1 _ _ rfl rfl rfl rfl (by decide), .refl _, src_row (r := ⟨a2, n2, c2, 5, 1, z2⟩) (List.mem_cons_self ..) hs2 (by show z2.length = _; rw [hz3, ints_len, hn3, Nat.mul_one]) (by show ∀ v ∈ z2, _; rw [hz3]; exact ints_one _ _), by omega, by omega, ?_⟩
      intro a9 n9 c9 z9 hn9 hz9 hs9
      conv => cbv
      refine fun _ => Base1.isRow (rest := [_]) Base1.row ⟨?_, ?_⟩
      · rw [hs, if_neg h0, if_neg h1, hn9, hn3]; simp; omega
      · rw [hs, if_neg h0, if_neg h1, hz9, hz3, o2, cnv_u8 hA (by omega), hn3]; rfl
    · refine br_f (by rw [cmp_geq hA]; simp; omega) ?_
      conv => cbv
      have hsn : sn v = dl v := by rw [sn, if_neg (by rw [← hL]; exact h128)]
      have hs5 := sn_b4 h0 hlt
      refine ⟨1, [.int .u8 (cnv .u8 (ofN n1))], _, _, _, n1, zs, .own _ 1 _ _ rfl rfl rfl rfl (by decide), .refl _, src_row (r := ⟨some a1, n1, c1, 5, 1, zs⟩) (List.mem_cons_self ..) (fun _ => rfl) (by show zs.length = _; rw [hzs, ints_len, hn1, Nat.mul_one]) (by show ∀ v ∈ zs, _; rw [hzs]; exact ints_one _ _), by omega, by omega, ?_⟩
      intro a9 n9 c9 z9 hn9 hz9 hs9
      conv => cbv
      refine fun _ => Base1.isRow (rest := [_]) Base1.row ⟨?_, ?_⟩
      · rw [hs, if_neg h0, if_neg h1, hn9, hn1, hsn]; simp; omega
      · rw [hs, if_neg h0, if_neg h1, hz9, hzs, o1, cnv_u8 hA (by omega), hn1, hsn]; rfl
  refine br_t (by rw [cmp_gtr hA]; simp; omega) ?_
  conv => cbv
  refine ⟨by decide, ?_⟩
  have e1 : bin .rem .i32 cur 256 = ((m % 256 : Nat) : Int) := by rw [hcur, rem_i32 hA (by omega)]; simp
  have e2 : cnv .u8 (bin .rem .i32 cur 256) = ((m % 256 : Nat) : Int) := by rw [e1]; exact cnv_u8 hA (by omega)
  refine ⟨n1, zs, _, _, _, 1, [.int .u8 (cnv .u8 (bin .rem .i32 cur 256))], hb.base, .refl _, .own 0 0 1 1 _ _ rfl rfl rfl (by simp [Value.oneCell']), by omega, by omega, ?_⟩
  intro a' n' c' zs' hn' hz' hs'
  conv => cbv
  refine ⟨by decide, ?_⟩
  have e3 : bin .quo .i32 cur 256 = ((m / 256 : Nat) : Int) := by rw [hcur, quo_i32 hA (by omega) (by omega) (by decide)]; simp
  refine ⟨m / 256, ⟨bin .quo .i32 cur 256, a', n', c', zs', _⟩, by omega, ⟨⟨rfl, rfl, trivial⟩, rfl, trivial, rfl, .refl _⟩, ys ++ [((m % 256 : Nat) : Int)], e3, by omega, ?_, Base1.row, ⟨?_, ?_⟩, hs'⟩
  · rw [List.append_assoc, ← hys, dlS hz]; rfl
  · show n' = _
    rw [hn', hn1]; simp
  · show zs' = _
    rw [hz', hzs, e2, ← ints_app]; rfl

theorem and255 {bin : BinOp → IntKind → Int → Int → Int} (hb : bin = Ar.real.bin) {x : Nat} (h1 : x < 4294967296) : bin .and .i64 x 255 = ((x % 256 : Nat) : Int) := by
  rw [hb]
  have e1 : (BitVec.ofInt 64 (x : Int)).toNat = x := by rw [BitVec.ofInt_natCast, BitVec.toNat_ofNat, Nat.mod_eq_of_lt (by omega)]
  show IntKind.i64.wrap ((BitVec.ofInt 64 (x : Int) &&& BitVec.ofInt 64 255).toNat : Int) = _
  rw [BitVec.toNat_and, e1, show (BitVec.ofInt 64 255).toNat = 2 ^ 8 - 1 by decide, Nat.and_two_pow_sub_one_eq_mod]
  exact w_i64 (by omega)

set_option maxRecDepth 100000 in
theorem top8 : ∀ x : Nat, x < 256 → ((x &&& 128 = 0) ↔ x < 128) := by decide

set_option maxRecDepth 100000 in
set_option maxHeartbeats 1000000 in
/-- A number's bytes. -/
theorem bytesP {P : Program} (hP : P = Try.prog) (R : RO) (h : Int) (v : Nat) (hv : h = v) (h0 : v ≠ 0) (hlt : v < 2147483648) : RetP P 86 [.int .i64 h] R fun R' r => ∃ a n c, r = .slice a n c ∧ RI R' .u8 a n (sn v) ∧ n ≤ c := by
  subst hP
  refine retP_vc (fz := []) Try.func86 rfl (by decide) rfl ok86 ?_
  intro P bin cmp cnv neg com bnot beq ofN toN at_ sub_ scmp cat sget ssz ssub elem fld_ hP hA
  conv => cbv
  refine br_f (by rw [cmp_eql hA]; simp; omega) ?_
  conv => cbv
  have cl : cmp .lss h 0 = false := by rw [cmp_lss hA]; simp; omega
  simp only [cl]
  conv => cbv
  refine ⟨by decide, by decide, by decide, by decide, ?_⟩
  intro a0 n0 c0 z0 hn0 hc0 hz0
  have hn0 : n0 = 0 := by omega
  rw [hn0] at hz0
  simp only [List.replicate_zero, List.flatten_nil] at hz0
  conv => cbv
  have hfour : (dl v).length ≤ 4 := by
    have h5 := sn_b4 h0 hlt
    rw [sn] at h5
    split at h5
    · simp only [List.length_append, List.length_cons, List.length_nil] at h5; omega
    · omega
  refine ⟨Ll, fun x => ⟨[(0, .v (.int .i64 x.cur)), (4, .v (.slice x.a x.n x.c)), (3, .v (.bool false))], R, [], 0, [⟨x.a, x.n, x.c, 5, 1, x.zs⟩]⟩,
    fun m x => ∃ ys : List Int, x.cur = m ∧ m ≤ v ∧ ys ++ dl m = dl v ∧ Bs .u8 ys x.n x.zs ∧ x.a.isSome = true,
    ⟨v, ⟨h, some a0, n0, c0, z0, []⟩, ⟨⟨rfl, rfl, rfl, trivial⟩, rfl, trivial, rfl, .refl _⟩, [], hv, by omega, rfl, ⟨hn0, hz0⟩, rfl⟩, ?_⟩
  rintro m ⟨cur, a1, n1, c1, zs, rs⟩ ⟨ys, hcur, hm, hys, ⟨hn1, hzs⟩, hsm⟩
  simp only at hcur hn1 hzs hsm
  have hyl : n1 ≤ (dl v).length := by rw [← hys, List.length_append]; omega
  conv => cbv
  by_cases hz : m = 0
  · refine br_f (by rw [cmp_gtr hA]; simp; omega) ?_
    conv => cbv
    obtain rfl : ys = dl v := by rw [hz, dl0, List.append_nil] at hys; exact hys
    have hne := dl_ne h0
    have hpos : 0 < (dl v).length := List.length_pos_iff.2 hne
    have o1 := ofN_ hA n1
    have es : bin .sub .i64 (ofN n1) 1 = ((n1 - 1 : Nat) : Int) := by rw [o1, sub_i64 hA (by omega)]; omega
    obtain ⟨a1, rfl⟩ := Option.isSome_iff_exists.1 hsm
    obtain ⟨L, hL⟩ : ∃ L : Nat, (L : Int) = (dl v).getLastD 0 := ⟨((dl v).getLastD 0).toNat, by have := dl_wf v _ (last_mem hne); omega⟩
    have hLr := dl_wf v _ (last_mem hne)
    rw [← hL] at hLr
    refine ⟨by rw [es]; omega, by rw [es, o1]; omega, rfl, ?_⟩
    refine ld_row hA 0 (r := ⟨some a1, n1, c1, 5, 1, zs⟩) rfl rfl rfl (v := .int .u8 (L : Int)) (by show zs[_]? = _; rw [es, hzs, ints, List.getElem?_map, show ((n1 - 1 : Nat) : Int).toNat = (dl v).length - 1 by omega, last_get hne, hL]; rfl) ?_
    obtain ⟨Li, hLi⟩ : ∃ i : Int, i = L := ⟨_, rfl⟩
    rw [← hLi]
    conv => cbv
    have e8 : bin .and .u8 Li 128 = ((L &&& 128 : Nat) : Int) := by rw [hLi]; exact and_u8 hA (y := 128) (by omega) (by decide)
    have t8 := top8 L (by omega)
    by_cases h128 : 128 ≤ L
    · refine br_t (by rw [cmp_neq hA, e8]; simp; omega) ?_
      conv => cbv
      refine ⟨n1, zs, _, _, _, 1, [.int .u8 0], .row 0 ⟨some a1, n1, c1, 5, 1, zs⟩ rfl rfl rfl, .refl _, .own _ _ _ _ _ _ rfl rfl rfl (by simp [Value.oneCell']), by omega, by omega, ?_⟩
      intro a2 n2 c2 z2 hn2 hz2 hs2
      conv => cbv
      have hsn : sn v = dl v ++ [0] := by rw [sn, if_pos (by rw [← hL]; omega)]
      have hz3 : z2 = ints .u8 (sn v) := by rw [hz2, hsn, hzs, ← ints_app]; rfl
      have hn3 : n2 = (sn v).length := by rw [hn2, hsn, hn1]; simp
      intro ρ R'' hle _ hpr
      exact ⟨a2, n2, c2, rfl, (hpr _ (List.mem_cons_self ..)).ri hn3 hs2 rfl hz3 (fun x hx => wf8 (sn_wf v x hx)), (hpr _ (List.mem_cons_self ..)).cap_ hs2⟩
    · refine br_f (by rw [cmp_neq hA, e8]; simp; omega) ?_
      conv => cbv
      have hsn : sn v = dl v := by rw [sn, if_neg (by rw [← hL]; omega)]
      intro ρ R'' hle _ hpr
      exact ⟨some a1, n1, c1, rfl, (hpr _ (List.mem_cons_self ..)).ri (by show n1 = _; rw [hn1, hsn]) (fun _ => rfl) rfl (by show zs = _; rw [hzs, hsn]) (fun x hx => wf8 (sn_wf v x hx)), (hpr _ (List.mem_cons_self ..)).cap_ (fun _ => rfl)⟩
  refine br_t (by rw [cmp_gtr hA]; simp; omega) ?_
  conv => cbv
  have e2 : cnv .u8 (bin .and .i64 cur 255) = ((m % 256 : Nat) : Int) := by rw [hcur, and255 (bin_is hA) (by omega)]; exact cnv_u8 hA (by omega)
  refine ⟨n1, zs, _, _, _, 1, [.int .u8 (cnv .u8 (bin .and .i64 cur 255))], .row 0 ⟨a1, n1, c1, 5, 1, zs⟩ rfl rfl rfl, .refl _, .own 0 0 1 1 _ _ rfl rfl rfl (by simp [Value.oneCell']), by omega, by omega, ?_⟩
  intro a' n' c' zs' hn' hz' hs'
  conv => cbv
  refine ⟨by decide, ?_⟩
  have e3 : bin .shr .i64 cur 8 = ((m / 256 : Nat) : Int) := by rw [hcur, shr_i64 hA (by decide)]; show (m : Int) / 2 ^ 8 = _; omega
  refine ⟨m / 256, ⟨bin .shr .i64 cur 8, a', n', c', zs', []⟩, by omega, ⟨⟨rfl, rfl, rfl, trivial⟩, rfl, trivial, rfl, .refl _⟩, ys ++ [((m % 256 : Nat) : Int)], e3, by omega, ?_, ⟨?_, ?_⟩, hs' (by omega)⟩
  · rw [List.append_assoc, ← hys, dlS hz]; rfl
  · show n' = _
    rw [hn', hn1]; simp
  · show zs' = _
    rw [hz', hzs, e2, ← ints_app]; rfl
end Go.Proofs.Ytnlpjppjhikooaa.Ht
