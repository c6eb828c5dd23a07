/- Texts of bech32: what the reference reads. -/
import Derived.Test.YtfkdaelfehibcaaDoorBee
import Derived.Test.YtfkdaelfehibcaaDoorTybe
set_option linter.unusedSimpArgs false
set_option linter.unusedVariables false
namespace Go.Proofs.YtfkdaelfehibcaaDoor.Be
open Go Go.Se Go.Proofs Go.Proofs.YtfkdaelfehibcaaDoor.Tybe

/-- A text's form: its readable part, its digits. -/
structure Fm (xs hs ds : List Int) : Prop where
  len : 8 ≤ xs.length ∧ xs.length ≤ 2000
  mix : (xs.any sm && xs.any cp) = false
  rng : ∀ x ∈ xs, 33 ≤ x ∧ x ≤ 126
  one : ∃ o : Nat, lst 49 xs = o ∧ 1 ≤ o ∧ o + 7 ≤ xs.length ∧ hs = (xs.map low).take o ∧ ds = dgs ((xs.map low).drop (o + 1)) ∧ ∀ d ∈ (xs.map low).drop (o + 1), 0 ≤ plc cset d

theorem Fm.uniq {xs hs ds hs' ds' : List Int} (h : Fm xs hs ds) (h' : Fm xs hs' ds') : hs = hs' ∧ ds = ds' := by
  obtain ⟨o, h1, _, _, h2, h3, _⟩ := h.one
  obtain ⟨o', k1, _, _, k2, k3, _⟩ := h'.one
  have : o = o' := by omega
  subst this
  exact ⟨by rw [h2, k2], by rw [h3, k3]⟩

def sumOf (hs ds : List Int) : Nat := pmL (xpd hs ++ ds.map byF) 1
def Sm (hs ds : List Int) : Prop := sumOf hs ds = 1 ∨ sumOf hs ds = 734539939

theorem low_rng {x : Int} (h : 33 ≤ x ∧ x ≤ 126) : 33 ≤ low x ∧ low x ≤ 126 := by
  unfold low cp
  split
  · rename_i h1
    have := of_decide_eq_true h1
    omega
  · exact h

structure Lf where
  i : Int
  o : Int

structure Lg where
  i : Int
  a : Option Addr
  n : Nat
  c : Nat
  zs : List Value
  rs : List Row



def OutS (xs : List Int) (R' : RO) (r : Value) : Prop :=
  ∃ h a n c su ok, r = .tuple #[.string h, .slice a n c, .int .u32 su, .bool ok] ∧ ((ok = true ∧ ∃ hs ds, Fm xs hs ds ∧ Sm hs ds ∧ SB h hs ∧ RI R' .u8 a n (ds.take (ds.length - 6)) ∧ n ≤ 2000 ∧ su = ((sumOf hs ds : Nat) : Int)) ∨ (ok = false ∧ ∀ hs ds, Fm xs hs ds → ¬ Sm hs ds))

set_option maxRecDepth 100000 in
set_option maxHeartbeats 4000000 in
theorem readS {P : Program} (hP : P = Tryd.prog) (R : RO) (x : ByteArray) (xs : List Int) (hx : SB x xs) (hl : xs.length ≤ 2000) :
    RetP P 4 [.string x, .int .i64 2000] R fun R' r => OutS xs R' r := by
  subst hP
  have hsz := hx.size
  obtain ⟨j8, hj8⟩ := Option.isSome_iff_exists.1 (show (Tryd.prog.info? 5).isSome = true by kernel_rfl)
  refine retP_vc (fz := [895]) Tryd.func4 rfl (by decide) rfl ok4 ?_
  intro P bin cmp cnv neg com bnot beq ofN toN at_ sub_ scmp cat sget ssz ssub elem fld_ hP hA
  conv => cbv
  have oz : ofN (ssz x) = (xs.length : Int) := by rw [ofN_ hA, ssz_ hA, hsz]
  by_cases h8 : xs.length < 8
  · have c1 : cmp .lss (ofN (ssz x)) 8 = true := by rw [oz, cmp_lss hA]; simp; omega
    simp (maxSteps := 10000000) only [c1]
    conv => cbv
    intro ρ R'' hle _ hpr
    refine ⟨_, _, _, _, _, _, rfl, .inr ⟨rfl, ?_⟩⟩
    exact fun hs ds f => absurd f.len.1 (by omega)
  have c1 : cmp .lss (ofN (ssz x)) 8 = false := by rw [oz, cmp_lss hA]; simp; omega
  have c2 : cmp .gtr (ofN (ssz x)) 2000 = false := by rw [oz, cmp_gtr hA]; simp; omega
  simp (maxSteps := 10000000) only [c1]
  conv => cbv
  simp (maxSteps := 10000000) only [c2]
  conv => cbv
  refine (mixedS hP R x xs hx (by omega)).callQ rfl ?_
  rintro _ ⟨bm, rfl, hbm⟩
  conv => cbv
  cases bm with
  | true =>
    conv => cbv
    intro ρ R'' hle _ hpr
    refine ⟨_, _, _, _, _, _, rfl, .inr ⟨rfl, ?_⟩⟩
    exact fun hs ds f => by have := f.mix; rw [← hbm] at this; cases this
  | false =>
  conv => cbv
  refine ⟨Lf, fun y => ⟨[(0, .v (.string x)), (5, .v (.slice none 0 0)), (8, .v (.int .i64 y.o)), (9, .v (.int .i64 y.i))], R, [], 0, []⟩,
    fun k y => ∃ j : Nat, y.i = j ∧ j ≤ xs.length ∧ k = xs.length - j ∧ y.o = lst 49 (xs.take j) ∧ ∀ d ∈ xs.take j, 33 ≤ d ∧ d ≤ 126,
    ⟨xs.length, ⟨0, -1⟩, ⟨⟨rfl, rfl, rfl, rfl, trivial⟩, rfl, trivial, rfl, .refl _⟩, 0, rfl, Nat.zero_le _, rfl, rfl, fun d hd => by simp at hd⟩, ?_⟩
  rintro k ⟨i, o⟩ ⟨j, hi, hj, hk, ho, hrn⟩
  simp only at hi ho
  conv => cbv
  by_cases hlt : j < xs.length
  case pos =>
    refine br_t (by rw [oz, cmp_lss hA]; simp; omega) ?_
    conv => cbv
    obtain ⟨d, hd⟩ : ∃ d, xs[j]? = some d := ⟨_, List.getElem?_eq_getElem hlt⟩
    have hix : (0 : Int) ≤ i ∧ i < (x.size : Int) := by rw [hsz]; omega
    have hget : sget x i = d := sb_get hA hx j hi hd
    have hi2 : bin .add .i64 i 1 = ((j + 1 : Nat) : Int) := by rw [hi, add_i64 hA (by omega)]; rfl
    have hdm := List.mem_of_getElem? hd
    refine ⟨hix, ?_⟩
    simp (maxSteps := 10000000) only [hget]
    by_cases h33 : d < 33
    · have e1 : cmp .lss d 33 = true := by rw [cmp_lss hA]; exact decide_eq_true h33
      simp (maxSteps := 10000000) only [e1]
      conv => cbv
      intro ρ R'' hle _ hpr
      refine ⟨_, _, _, _, _, _, rfl, .inr ⟨rfl, ?_⟩⟩
      exact fun hs ds f => absurd (f.rng d hdm).1 (by omega)
    have e1 : cmp .lss d 33 = false := by rw [cmp_lss hA]; exact decide_eq_false h33
    simp (maxSteps := 10000000) only [e1]
    conv => cbv
    refine ⟨hix, ?_⟩
    simp (maxSteps := 10000000) only [hget]
    by_cases h126 : 126 < d
    · refine br_t (by rw [cmp_gtr hA]; exact decide_eq_true h126) ?_
      conv => cbv
      intro ρ R'' hle _ hpr
      refine ⟨_, _, _, _, _, _, rfl, .inr ⟨rfl, ?_⟩⟩
      exact fun hs ds f => absurd (f.rng d hdm).2 (by omega)
    refine br_f (by rw [cmp_gtr hA]; exact decide_eq_false h126) ?_
    conv => cbv
    refine ⟨hix, ?_⟩
    simp (maxSteps := 10000000) only [hget]
    have hrn2 : ∀ e ∈ xs.take (j + 1), 33 ≤ e ∧ e ≤ 126 := by
      intro e he
      rw [take_snoc hd] at he
      rcases List.mem_append.1 he with h | h
      · exact hrn e h
      · rw [List.mem_singleton.1 h]; omega
    have hsn : lst 49 (xs.take (j + 1)) = if d = 49 then (j : Int) else lst 49 (xs.take j) := by
      rw [take_snoc hd, lst_snoc, List.length_take, Nat.min_eq_left (by omega)]
    by_cases h49 : d = 49
    · refine br_t (by rw [cmp_eql hA, h49]; rfl) ?_
      conv => cbv
      exact ⟨xs.length - (j + 1), ⟨bin .add .i64 i 1, i⟩, by omega, ⟨⟨rfl, rfl, rfl, rfl, trivial⟩, rfl, trivial, rfl, .refl _⟩, j + 1, hi2, hlt, rfl, by show i = _; rw [hsn, if_pos h49, hi], hrn2⟩
    · refine br_f (by rw [cmp_eql hA]; exact beq_false_of_ne h49) ?_
      conv => cbv
      exact ⟨xs.length - (j + 1), ⟨bin .add .i64 i 1, o⟩, by omega, ⟨⟨rfl, rfl, rfl, rfl, trivial⟩, rfl, trivial, rfl, .refl _⟩, j + 1, hi2, hlt, rfl, by show o = _; rw [hsn, if_neg h49, ho], hrn2⟩
  refine br_f (by rw [oz, cmp_lss hA]; simp; omega) ?_
  have hjl : j = xs.length := by omega
  subst hjl
  rw [List.take_length] at ho hrn
  conv => cbv
  have hlb := lst_bd 49 xs
  by_cases ho1 : o < 1
  · have e1 : cmp .lss o 1 = true := by rw [cmp_lss hA]; exact decide_eq_true ho1
    simp (maxSteps := 10000000) only [e1]
    conv => cbv
    intro ρ R'' hle _ hpr
    refine ⟨_, _, _, _, _, _, rfl, .inr ⟨rfl, ?_⟩⟩
    exact fun hs ds f => by obtain ⟨o', h1, h2, _⟩ := f.one; omega
  have e1 : cmp .lss o 1 = false := by rw [cmp_lss hA]; exact decide_eq_false ho1
  simp (maxSteps := 10000000) only [e1]
  conv => cbv
  obtain ⟨O, hO⟩ : ∃ O : Nat, o = O := ⟨o.toNat, by omega⟩
  have e7 : bin .add .i64 o 7 = ((O + 7 : Nat) : Int) := by rw [hO, add_i64 hA (by omega)]; rfl
  by_cases ho7 : xs.length < O + 7
  · refine br_t (by rw [oz, e7, cmp_gtr hA]; simp; omega) ?_
    conv => cbv
    intro ρ R'' hle _ hpr
    refine ⟨_, _, _, _, _, _, rfl, .inr ⟨rfl, ?_⟩⟩
    exact fun hs ds f => by obtain ⟨o', h1, h2, h3, _⟩ := f.one; omega
  refine br_f (by rw [oz, e7, cmp_gtr hA]; simp; omega) ?_
  conv => cbv
  refine (lowerS hP R x xs hx (by omega) (fun c hc => by have := hrn c hc; omega)).callQ rfl ?_
  rintro _ ⟨s, rfl, hss⟩
  conv => cbv
  obtain ⟨ys, hys⟩ : ∃ ys, ys = xs.map low := ⟨_, rfl⟩
  rw [← hys] at hss
  have hyl : ys.length = xs.length := by rw [hys, List.length_map]
  have hyr : ∀ y ∈ ys, 33 ≤ y ∧ y ≤ 126 := fun y hy => by
    rw [hys] at hy
    obtain ⟨w, hw, rfl⟩ := List.mem_map.1 hy
    exact low_rng (hrn w hw)
  have hsz2 := hss.size
  refine ⟨0, O, rfl, hO.symm, Nat.zero_le _, by omega, ?_⟩
  intro h hh
  have hsbh : SB h (ys.take O) := by rw [hh]; exact hss.ext 0 O
  conv => cbv
  have oz2 : ofN (ssz s) = (xs.length : Int) := by rw [ofN_ hA, ssz_ hA, hsz2, hyl]
  have e8 : bin .add .i64 o 1 = ((O + 1 : Nat) : Int) := by rw [hO, add_i64 hA (by omega)]; rfl
  obtain ⟨ts, hts⟩ : ∃ ts, ts = ys.drop (O + 1) := ⟨_, rfl⟩
  have htl : ts.length = xs.length - (O + 1) := by rw [hts, List.length_drop, hyl]
  have htr : ∀ y ∈ ts, 33 ≤ y ∧ y ≤ 126 := fun y hy => hyr y (by rw [hts] at hy; exact List.mem_of_mem_drop hy)
  refine ⟨Lg, fun y => ⟨[(0, .v (.string s)), (4, .v (.string h)), (5, .v (.slice y.a y.n y.c)), (10, .v (.int .i64 y.i))], R, [], 0, y.rs⟩,
    fun k y => ∃ j : Nat, y.i = ((O + 1 + j : Nat) : Int) ∧ j ≤ ts.length ∧ k = ts.length - j ∧ Base1 y.rs [] y.a y.n y.c 5 1 y.zs ∧ y.zs = ints .u8 (dgs (ts.take j)) ∧ y.n = j ∧ (y.n ≠ 0 → y.a.isSome = true) ∧ ∀ d ∈ ts.take j, 0 ≤ plc cset d,
    ⟨ts.length, ⟨bin .add .i64 o 1, none, 0, 0, [], []⟩, ⟨⟨rfl, rfl, rfl, rfl, trivial⟩, rfl, trivial, rfl, .refl _⟩, 0, e8, Nat.zero_le _, rfl, Base1.nil, rfl, rfl, fun h => absurd rfl h, fun d hd => by simp at hd⟩, ?_⟩
  rintro k ⟨i, a1, n1, c1, zs, rs⟩ ⟨j, hi, hj, hk, hb, hz, hn1, hs1, hnn⟩
  simp only at hi hb hz hn1 hs1
  conv => cbv
  by_cases hlt : j < ts.length
  case pos =>
    refine br_t (by rw [oz2, cmp_lss hA]; simp; omega) ?_
    conv => cbv
    obtain ⟨d, hd⟩ : ∃ d, ts[j]? = some d := ⟨_, List.getElem?_eq_getElem hlt⟩
    have hdy : ys[O + 1 + j]? = some d := by rw [← hd, hts, List.getElem?_drop]
    have hdb := htr d (List.mem_of_getElem? hd)
    have hix : (0 : Int) ≤ i ∧ i < (s.size : Int) := by rw [hsz2]; omega
    have hget : sget s i = d := sb_get hA hss (O + 1 + j) hi hdy
    have hi2 : bin .add .i64 i 1 = ((O + 1 + (j + 1) : Nat) : Int) := by rw [hi, add_i64 hA (by omega)]; rfl
    refine ⟨hix, ?_⟩
    simp (maxSteps := 10000000) only [hget]
    refine (placeS hP R _ _ cset_sb (by decide) d).callQ rfl ?_
    rintro _ ⟨p, rfl, hp⟩
    have hpb := plc_bd cset d
    have h32 : (cset.length : Int) = 32 := rfl
    conv => cbv
    by_cases hp0 : p < 0
    · refine br_t (by rw [cmp_lss hA]; exact decide_eq_true hp0) ?_
      conv => cbv
      intro ρ R'' hle _ hpr
      refine ⟨_, _, _, _, _, _, rfl, .inr ⟨rfl, ?_⟩⟩
      exact fun hs ds f => by
        obtain ⟨o', h1, h2, h3, h4, h5, h6⟩ := f.one
        have : o' = O := by omega
        subst this
        have := h6 d (by rw [← hys, ← hts]; exact List.mem_of_getElem? hd)
        omega
    refine br_f (by rw [cmp_lss hA]; exact decide_eq_false hp0) ?_
    conv => cbv
    have ep : cnv .u8 p = p := cnv_u8 hA (by omega)
    refine ⟨n1, zs, _, _, _, 1, [.int .u8 (cnv .u8 p)], hb.base, .refl _, .own _ _ 1 1 _ _ rfl rfl rfl (by simp [Value.oneCell']), by omega, by omega, ?_⟩
    intro a2 n2 c2 z2 hn2 hz2 hs2
    conv => cbv
    have hzz : z2 = ints .u8 (dgs (ts.take (j + 1))) := by
      rw [hz2, hz, take_snoc hd, ep, hp]
      simp [ints, dgs]
    have hnn2 : ∀ e ∈ ts.take (j + 1), 0 ≤ plc cset e := by
      intro e he
      rw [take_snoc hd] at he
      rcases List.mem_append.1 he with h | h
      · exact hnn e h
      · rw [List.mem_singleton.1 h]; omega
    exact ⟨ts.length - (j + 1), ⟨bin .add .i64 i 1, a2, n2, c2, z2, _⟩, by omega, ⟨⟨rfl, rfl, rfl, rfl, trivial⟩, rfl, trivial, rfl, .refl _⟩, j + 1, hi2, hlt, rfl, Base1.row, hzz, by show n2 = j + 1; omega, hs2, hnn2⟩
  refine br_f (by rw [oz2, cmp_lss hA]; simp; omega) ?_
  have hjl : j = ts.length := by omega
  subst hjl
  rw [List.take_length] at hz hnn
  conv => cbv
  obtain ⟨ds, hds⟩ : ∃ ds, ds = dgs ts := ⟨_, rfl⟩
  rw [← hds] at hz
  have hdl : ds.length = ts.length := by rw [hds, dgs, List.length_map]
  have hdr : ∀ y ∈ ds, 0 ≤ y ∧ y ≤ 255 := fun y hy => by
    rw [hds] at hy
    obtain ⟨w, hw, rfl⟩ := List.mem_map.1 hy
    have h1 := plc_bd cset w
    have h2 := hnn w hw
    have h3 : (cset.length : Int) = 32 := rfl
    omega
  obtain ⟨hs, hhs⟩ : ∃ hs, hs = ys.take O := ⟨_, rfl⟩
  rw [← hhs] at hsbh
  have hhr : ∀ y ∈ hs, 0 ≤ y ∧ y ≤ 255 := fun y hy => by have := hyr y (by rw [hhs] at hy; exact List.mem_of_mem_take hy); omega
  have hhl : hs.length = O := by rw [hhs, List.length_take]; omega
  have hfm : Fm xs hs ds := ⟨⟨by omega, hl⟩, hbm.symm, hrn, O, by omega, by omega, by omega, by rw [hhs, hys], by rw [hds, hts, hys], by rw [← hys, ← hts]; exact hnn⟩
  refine (expandS hP R h hs hsbh (by omega) hhr).call rfl ?_
  rintro a3 n3 c3 z3 rs3 hb3 hs3 ⟨hz3, hn3⟩
  conv => cbv
  rcases hb with ⟨_, _, e, _⟩ | rfl
  · omega
  rw [xpI_len] at hn3
  have hz1 : zs.length = n1 := by rw [hz, ints_len]; omega
  refine ⟨n3, z3, _, _, _, n1, zs, hb3.base, .refl _, src_row (r := ⟨a1, n1, c1, 5, 1, zs⟩) (hb3.sub.subset (List.mem_cons_self ..)) hs1 (by show zs.length = _; rw [hz1, Nat.mul_one]) (by show ∀ v ∈ zs, _; rw [hz]; exact ints_one _ _), by omega, by omega, ?_⟩
  intro a4 n4 c4 z4 hn4 hz4 hs4
  conv => cbv
  obtain ⟨a4, rfl⟩ := Option.isSome_iff_exists.1 (hs4 (by omega))
  have hz5 : z4 = ints .u8 (xpI hs ++ ds) := by rw [hz4, hz3, hz, ints_app]
  refine polymodS hP R _ a4 n4 c4 (xpI hs ++ ds) z4 rfl hz5 (by rw [List.length_append, xpI_len]; omega) (by omega) (fun y hy => by
    rcases List.mem_append.1 hy with h | h
    · exact xpI_wf hhr y h
    · exact hdr y h) ?_
  intro q hq
  rw [List.map_append, xpI_nat hhr] at hq
  have hq : q = ((sumOf hs ds : Nat) : Int) := hq
  conv => cbv
  obtain ⟨N6, hN6⟩ : ∃ N, N = ts.length - 6 := ⟨_, rfl⟩
  have hn6 : bin .sub .i64 (ofN n1) 6 = ((N6 : Nat) : Int) := by rw [ofN_ hA, sub_i64 hA (by omega)]; omega
  by_cases hq1 : q = 1
  · have f1 : cmp .neq q 1 = false := by rw [cmp_neq hA, hq1]; rfl
    simp (maxSteps := 10000000) only [f1]
    conv => cbv
    have hsm : Sm hs ds := .inl (by omega)
    refine ⟨[0, 1, 2, 3, 4, 5, 6, 7, 8, 9, 10], [], mix hP, by kernel_rfl, ?_⟩
    conv => cbv
    refine raw_slice_row (r := ⟨a1, n1, c1, 5, 1, zs⟩) (h := N6) rfl rfl rfl hn6 (List.mem_cons_of_mem _ (List.mem_cons_self ..)) (by show N6 ≤ n1; omega) (by rw [hP]; exact Tryd.underlying22) (by rw [hP]; exact hj8) ?_
    conv => cbv
    intro ρ R'' hle _ hpr
    have hri : RI R'' .u8 a1 n1 ds := (hpr ⟨a1, n1, c1, 5, 1, zs⟩ (List.mem_cons_of_mem _ (List.mem_cons_self ..))).ri (by show n1 = _; omega) hs1 rfl hz (fun y hy => wfb (hdr y hy))
    have hp2 := hri.part' (l := 0) (m := N6) (n' := N6) (c := n1) (a' := a1) (Nat.zero_le _) (by omega) rfl (Nat.le_refl _) (by rw [if_neg (by omega)]; cases a1 <;> simp [Addr.add])
    refine ⟨_, _, _, _, _, _, rfl, .inl ⟨rfl, hs, ds, hfm, hsm, hsbh, ?_, by omega, hq⟩⟩
    rw [hdl, ← hN6]
    exact hp2
  have f1 : cmp .neq q 1 = true := by rw [cmp_neq hA]; exact bne_iff_ne.2 hq1
  simp (maxSteps := 10000000) only [f1]
  conv => cbv
  by_cases hqm : q = 734539939
  · refine br_f (by rw [cmp_neq hA, hqm]; rfl) ?_
    conv => cbv
    have hsm : Sm hs ds := .inr (by omega)
    refine ⟨[0, 1, 2, 3, 4, 5, 6, 7, 8, 9, 10], [], mix hP, by kernel_rfl, ?_⟩
    conv => cbv
    refine raw_slice_row (r := ⟨a1, n1, c1, 5, 1, zs⟩) (h := N6) rfl rfl rfl hn6 (List.mem_cons_of_mem _ (List.mem_cons_self ..)) (by show N6 ≤ n1; omega) (by rw [hP]; exact Tryd.underlying22) (by rw [hP]; exact hj8) ?_
    conv => cbv
    intro ρ R'' hle _ hpr
    have hri : RI R'' .u8 a1 n1 ds := (hpr ⟨a1, n1, c1, 5, 1, zs⟩ (List.mem_cons_of_mem _ (List.mem_cons_self ..))).ri (by show n1 = _; omega) hs1 rfl hz (fun y hy => wfb (hdr y hy))
    have hp2 := hri.part' (l := 0) (m := N6) (n' := N6) (c := n1) (a' := a1) (Nat.zero_le _) (by omega) rfl (Nat.le_refl _) (by rw [if_neg (by omega)]; cases a1 <;> simp [Addr.add])
    refine ⟨_, _, _, _, _, _, rfl, .inl ⟨rfl, hs, ds, hfm, hsm, hsbh, ?_, by omega, hq⟩⟩
    rw [hdl, ← hN6]
    exact hp2
  refine br_t (by rw [cmp_neq hA]; exact bne_iff_ne.2 hqm) ?_
  conv => cbv
  intro ρ R'' hle _ hpr
  refine ⟨_, _, _, _, _, _, rfl, .inr ⟨rfl, ?_⟩⟩
  intro hs' ds' f hc
  obtain ⟨rfl, rfl⟩ := hfm.uniq f
  rcases hc with hc | hc <;> omega
end Go.Proofs.YtfkdaelfehibcaaDoor.Be
