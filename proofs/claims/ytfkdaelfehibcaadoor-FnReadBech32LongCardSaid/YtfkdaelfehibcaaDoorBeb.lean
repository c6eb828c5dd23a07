/- Texts of bech32: strings read byte by byte. -/
import Derived.Test.YtfkdaelfehibcaaDoorBea
import Derived.Test.YtfkdaelfehibcaaDoorBga
import Derived.Test.YtfkdaelfehibcaaDoorTyba
set_option linter.unusedSimpArgs false
set_option linter.unusedVariables false
namespace Go.Proofs.YtfkdaelfehibcaaDoor.Be
open Go Go.Se Go.Proofs Go.Proofs.YtfkdaelfehibcaaDoor.Tyba

theorem mix {P : Program} (hP : P = Tryd.prog) : P.follows .mixedOrders = true := by subst hP; rfl

theorem wfb {x : Int} (h : 0 ≤ x ∧ x ≤ 255) : (Lit.int .u8 x).wf = true := by
  simp [Lit.wf, IntKind.min, IntKind.max, IntKind.bits, IntKind.signed]
  omega

/-- A string's bytes, as they are. -/
theorem sb_of (b : ByteArray) : ∃ xs : List Int, SB b xs ∧ ∀ x ∈ xs, 0 ≤ x ∧ x ≤ 255 := by
  refine ⟨b.data.toList.map fun x => (x.toNat : Int), ?_, ?_⟩
  · unfold SB byteCells ints
    rw [List.map_map]
    rfl
  · intro x hx
    obtain ⟨y, _, rfl⟩ := List.mem_map.1 hx
    have := y.toNat_lt
    omega

theorem sb_mk {xs : List Int} (h : ∀ x ∈ xs, 0 ≤ x ∧ x ≤ 255) : ∃ b : ByteArray, SB b xs := by
  obtain ⟨b, hb⟩ := bytes_of_ints (fun x hx => wfb (h x hx))
  exact ⟨b, hb⟩

theorem plc_step (l : List Int) (b : Int) (j : Nat) : (if (if plc l b < 0 then (-1 : Int) else plc l b + 1) < 0 then (-1 : Int) else (if plc l b < 0 then (-1 : Int) else plc l b + 1) + (j : Int)) = if plc l b < 0 then (-1 : Int) else plc l b + ((j + 1 : Nat) : Int) := by
  by_cases h0 : plc l b < 0
  · rw [if_pos h0, if_pos h0]
    rfl
  · rw [if_neg h0, if_neg h0, if_neg (by omega)]
    omega

theorem low_step {xs : List Int} {j : Nat} {d : Int} (hdr : xs.drop j = d :: xs.drop (j + 1)) (htk : xs.take (j + 1) = xs.take j ++ [d]) (h : low d = d) : (xs.take j).map low ++ xs.drop j = (xs.take (j + 1)).map low ++ xs.drop (j + 1) := by
  rw [hdr, htk, List.map_append, List.append_assoc]
  simp [h]

structure Lm where
  s : Bool
  c : Bool
  i : Int



theorem cp_f65 {d : Int} (h : ¬ 65 ≤ d) : false = (false || cp d) := by unfold cp; simp [h]
theorem cp_t65 {d : Int} (h : 65 ≤ d) : decide (d ≤ 90) = (false || cp d) := by unfold cp; simp [h]
theorem sm_f97 {d : Int} (h : ¬ 97 ≤ d) : false = (false || sm d) := by unfold sm; simp [h]
theorem sm_t97 {d : Int} (h : 97 ≤ d) : decide (d ≤ 122) = (false || sm d) := by unfold sm; simp [h]

theorem drop_cons {ts : List Int} {i : Nat} {c : Int} (hc : ts[i]? = some c) : ts.drop i = c :: ts.drop (i + 1) := by
  obtain ⟨h1, h2⟩ := List.getElem?_eq_some_iff.1 hc
  rw [← h2, List.drop_eq_getElem_cons h1]

theorem take_snoc {ts : List Int} {i : Nat} {c : Int} (hc : ts[i]? = some c) : ts.take (i + 1) = ts.take i ++ [c] := by rw [List.take_add_one, hc]; rfl

theorem any_snoc (f : Int → Bool) {ts : List Int} {i : Nat} {c : Int} (hc : ts[i]? = some c) : (ts.take (i + 1)).any f = ((ts.take i).any f || f c) := by
  rw [take_snoc hc, List.any_append]
  simp

set_option maxRecDepth 100000 in
set_option maxHeartbeats 2000000 in
theorem mixedS {P : Program} (hP : P = Tryd.prog) (R : RO) (x : ByteArray) (xs : List Int) (hx : SB x xs) (hl : xs.length ≤ 100000) :
    RetP P 7 [.string x] R fun _ r => ∃ b, r = .bool b ∧ b = (xs.any sm && xs.any cp) := by
  subst hP
  have hsz := hx.size
  refine retP_vc (fz := []) Tryd.func7 rfl (by decide) rfl ok7 ?_
  intro P bin cmp cnv neg com bnot beq ofN toN at_ sub_ scmp cat sget ssz ssub elem fld_ hP hA
  conv => cbv
  have oz : ofN (ssz x) = (xs.length : Int) := by rw [ofN_ hA, ssz_ hA, hsz]
  refine ⟨Lm, fun y => ⟨[(0, .v (.string x)), (3, .v (.bool y.s)), (4, .v (.bool y.c)), (5, .v (.int .i64 y.i))], R, [], 0, []⟩,
    fun k y => ∃ j : Nat, y.i = j ∧ j ≤ xs.length ∧ k = xs.length - j ∧ y.s = (xs.take j).any sm ∧ y.c = (xs.take j).any cp,
    ⟨xs.length, ⟨false, false, 0⟩, ⟨⟨rfl, rfl, rfl, rfl, trivial⟩, rfl, trivial, rfl, .refl _⟩, 0, rfl, Nat.zero_le _, rfl, rfl, rfl⟩, ?_⟩
  rintro k ⟨s, c, i⟩ ⟨j, hi, hj, hk, hs, hc⟩
  simp only at hi hs hc
  conv => cbv
  by_cases hlt : j < xs.length
  case neg =>
    refine br_f (by rw [oz, cmp_lss hA]; simp; omega) ?_
    rw [List.take_of_length_le (by omega)] at hs hc
    conv => cbv
    cases s with
    | true =>
      conv => cbv
      intro ρ R'' _ _ _
      exact ⟨_, rfl, by rw [← hs, ← hc]; rfl⟩
    | false =>
      conv => cbv
      intro ρ R'' _ _ _
      exact ⟨_, rfl, by rw [← hs, ← hc]; rfl⟩
  refine br_t (by rw [oz, cmp_lss hA]; simp; omega) ?_
  conv => cbv
  obtain ⟨d, hd⟩ : ∃ d, xs[j]? = some d := ⟨_, List.getElem?_eq_getElem hlt⟩
  have hts := any_snoc sm hd
  have htc := any_snoc cp hd
  have hix : (0 : Int) ≤ i ∧ i < (x.size : Int) := by rw [hsz]; omega
  have hget : sget x i = d := sb_get hA hx j hi hd
  have hi2 : bin .add .i64 i 1 = ((j + 1 : Nat) : Int) := by rw [hi, add_i64 hA (by omega)]; rfl
  cases s with
  | true =>
    conv => cbv
    cases c with
    | true =>
      conv => cbv
      exact ⟨xs.length - (j + 1), ⟨true, true, bin .add .i64 i 1⟩, by omega, ⟨⟨rfl, rfl, rfl, rfl, trivial⟩, rfl, trivial, rfl, .refl _⟩, j + 1, hi2, hlt, rfl, by show true = _; rw [hts, ← hs]; exact rfl, by show true = _; rw [htc, ← hc]; exact rfl⟩
    | false =>
      conv => cbv
      refine ⟨hix, ?_⟩
      simp (maxSteps := 10000000) only [hget]
      by_cases h65 : 65 ≤ d
      case neg =>
        have c65 : cmp .geq d 65 = false := by rw [cmp_geq hA]; exact decide_eq_false h65
        simp (maxSteps := 10000000) only [c65]
        conv => cbv
        exact ⟨xs.length - (j + 1), ⟨true, false, bin .add .i64 i 1⟩, by omega, ⟨⟨rfl, rfl, rfl, rfl, trivial⟩, rfl, trivial, rfl, .refl _⟩, j + 1, hi2, hlt, rfl, by show true = _; rw [hts, ← hs]; exact rfl, by show false = _; rw [htc, ← hc]; exact (cp_f65 h65)⟩
      have c65 : cmp .geq d 65 = true := by rw [cmp_geq hA]; exact decide_eq_true h65
      simp (maxSteps := 10000000) only [c65]
      conv => cbv
      refine ⟨hix, ?_⟩
      simp (maxSteps := 10000000) only [hget]
      have hcc : cmp .leq d 90 = (false || cp d) := by rw [cmp_leq hA]; exact cp_t65 h65
      exact ⟨xs.length - (j + 1), ⟨true, (cmp .leq d 90), bin .add .i64 i 1⟩, by omega, ⟨⟨rfl, rfl, rfl, rfl, trivial⟩, rfl, trivial, rfl, .refl _⟩, j + 1, hi2, hlt, rfl, by show true = _; rw [hts, ← hs]; exact rfl, by show (cmp .leq d 90) = _; rw [htc, ← hc]; exact hcc⟩
  | false =>
    conv => cbv
    refine ⟨hix, ?_⟩
    simp (maxSteps := 10000000) only [hget]
    by_cases h97 : 97 ≤ d
    case neg =>
      have c97 : cmp .geq d 97 = false := by rw [cmp_geq hA]; exact decide_eq_false h97
      simp (maxSteps := 10000000) only [c97]
      conv => cbv
      cases c with
      | true =>
        conv => cbv
        exact ⟨xs.length - (j + 1), ⟨false, true, bin .add .i64 i 1⟩, by omega, ⟨⟨rfl, rfl, rfl, rfl, trivial⟩, rfl, trivial, rfl, .refl _⟩, j + 1, hi2, hlt, rfl, by show false = _; rw [hts, ← hs]; exact (sm_f97 h97), by show true = _; rw [htc, ← hc]; exact rfl⟩
      | false =>
        conv => cbv
        refine ⟨hix, ?_⟩
        simp (maxSteps := 10000000) only [hget]
        by_cases h65 : 65 ≤ d
        case neg =>
          have c65 : cmp .geq d 65 = false := by rw [cmp_geq hA]; exact decide_eq_false h65
          simp (maxSteps := 10000000) only [c65]
          conv => cbv
          exact ⟨xs.length - (j + 1), ⟨false, false, bin .add .i64 i 1⟩, by omega, ⟨⟨rfl, rfl, rfl, rfl, trivial⟩, rfl, trivial, rfl, .refl _⟩, j + 1, hi2, hlt, rfl, by show false = _; rw [hts, ← hs]; exact (sm_f97 h97), by show false = _; rw [htc, ← hc]; exact (cp_f65 h65)⟩
        have c65 : cmp .geq d 65 = true := by rw [cmp_geq hA]; exact decide_eq_true h65
        simp (maxSteps := 10000000) only [c65]
        conv => cbv
        refine ⟨hix, ?_⟩
        simp (maxSteps := 10000000) only [hget]
        have hcc : cmp .leq d 90 = (false || cp d) := by rw [cmp_leq hA]; exact cp_t65 h65
        exact ⟨xs.length - (j + 1), ⟨false, (cmp .leq d 90), bin .add .i64 i 1⟩, by omega, ⟨⟨rfl, rfl, rfl, rfl, trivial⟩, rfl, trivial, rfl, .refl _⟩, j + 1, hi2, hlt, rfl, by show false = _; rw [hts, ← hs]; exact (sm_f97 h97), by show (cmp .leq d 90) = _; rw [htc, ← hc]; exact hcc⟩
    have c97 : cmp .geq d 97 = true := by rw [cmp_geq hA]; exact decide_eq_true h97
    simp (maxSteps := 10000000) only [c97]
    conv => cbv
    refine ⟨hix, ?_⟩
    simp (maxSteps := 10000000) only [hget]
    have hss : cmp .leq d 122 = (false || sm d) := by rw [cmp_leq hA]; exact sm_t97 h97
    conv => cbv
    cases c with
    | true =>
      conv => cbv
      exact ⟨xs.length - (j + 1), ⟨(cmp .leq d 122), true, bin .add .i64 i 1⟩, by omega, ⟨⟨rfl, rfl, rfl, rfl, trivial⟩, rfl, trivial, rfl, .refl _⟩, j + 1, hi2, hlt, rfl, by show (cmp .leq d 122) = _; rw [hts, ← hs]; exact hss, by show true = _; rw [htc, ← hc]; exact rfl⟩
    | false =>
      conv => cbv
      refine ⟨hix, ?_⟩
      simp (maxSteps := 10000000) only [hget]
      by_cases h65 : 65 ≤ d
      case neg =>
        have c65 : cmp .geq d 65 = false := by rw [cmp_geq hA]; exact decide_eq_false h65
        simp (maxSteps := 10000000) only [c65]
        conv => cbv
        exact ⟨xs.length - (j + 1), ⟨(cmp .leq d 122), false, bin .add .i64 i 1⟩, by omega, ⟨⟨rfl, rfl, rfl, rfl, trivial⟩, rfl, trivial, rfl, .refl _⟩, j + 1, hi2, hlt, rfl, by show (cmp .leq d 122) = _; rw [hts, ← hs]; exact hss, by show false = _; rw [htc, ← hc]; exact (cp_f65 h65)⟩
      have c65 : cmp .geq d 65 = true := by rw [cmp_geq hA]; exact decide_eq_true h65
      simp (maxSteps := 10000000) only [c65]
      conv => cbv
      refine ⟨hix, ?_⟩
      simp (maxSteps := 10000000) only [hget]
      have hcc : cmp .leq d 90 = (false || cp d) := by rw [cmp_leq hA]; exact cp_t65 h65
      exact ⟨xs.length - (j + 1), ⟨(cmp .leq d 122), (cmp .leq d 90), bin .add .i64 i 1⟩, by omega, ⟨⟨rfl, rfl, rfl, rfl, trivial⟩, rfl, trivial, rfl, .refl _⟩, j + 1, hi2, hlt, rfl, by show (cmp .leq d 122) = _; rw [hts, ← hs]; exact hss, by show (cmp .leq d 90) = _; rw [htc, ← hc]; exact hcc⟩

structure Li where
  i : Int

set_option maxRecDepth 100000 in
set_option maxHeartbeats 2000000 in
theorem placeS {P : Program} (hP : P = Tryd.prog) (R : RO) (x : ByteArray) (xs : List Int) (hx : SB x xs) (hl : xs.length ≤ 100000) (b : Int) :
    RetP P 9 [.string x, .int .u8 b] R fun _ r => ∃ p, r = .int .i64 p ∧ p = plc xs b := by
  subst hP
  have hsz := hx.size
  refine retP_vc (fz := []) Tryd.func9 rfl (by decide) rfl ok9 ?_
  intro P bin cmp cnv neg com bnot beq ofN toN at_ sub_ scmp cat sget ssz ssub elem fld_ hP hA
  conv => cbv
  have oz : ofN (ssz x) = (xs.length : Int) := by rw [ofN_ hA, ssz_ hA, hsz]
  refine ⟨Li, fun y => ⟨[(0, .v (.string x)), (1, .v (.int .u8 b)), (5, .v (.int .i64 y.i))], R, [], 0, []⟩,
    fun k y => ∃ j : Nat, y.i = j ∧ j ≤ xs.length ∧ k = xs.length - j ∧ plc xs b = (if plc (xs.drop j) b < 0 then -1 else plc (xs.drop j) b + j),
    ⟨xs.length, ⟨0⟩, ⟨⟨rfl, rfl, rfl, trivial⟩, rfl, trivial, rfl, .refl _⟩, 0, rfl, Nat.zero_le _, rfl, by have := plc_bd xs b; rw [List.drop_zero]; split <;> omega⟩, ?_⟩
  rintro k ⟨i⟩ ⟨j, hi, hj, hk, hp⟩
  simp only at hi
  conv => cbv
  by_cases hlt : j < xs.length
  case neg =>
    refine br_f (by rw [oz, cmp_lss hA]; simp; omega) ?_
    rw [List.drop_of_length_le (by omega)] at hp
    conv => cbv
    intro ρ R'' _ _ _
    exact ⟨_, rfl, by rw [hp]; rfl⟩
  refine br_t (by rw [oz, cmp_lss hA]; simp; omega) ?_
  conv => cbv
  obtain ⟨d, hd⟩ : ∃ d, xs[j]? = some d := ⟨_, List.getElem?_eq_getElem hlt⟩
  have hix : (0 : Int) ≤ i ∧ i < (x.size : Int) := by rw [hsz]; omega
  have hget : sget x i = d := sb_get hA hx j hi hd
  have hi2 : bin .add .i64 i 1 = ((j + 1 : Nat) : Int) := by rw [hi, add_i64 hA (by omega)]; rfl
  rw [drop_cons hd, plc] at hp
  refine ⟨hix, ?_⟩
  by_cases he : d = b
  · refine br_t (by rw [hget, cmp_eql hA, he]; simp) ?_
    conv => cbv
    intro ρ R'' _ _ _
    exact ⟨_, rfl, by rw [hp, if_pos he, hi]; simp⟩
  refine br_f (by rw [hget, cmp_eql hA]; exact beq_false_of_ne he) ?_
  conv => cbv
  rw [if_neg he] at hp
  have hb2 := plc_bd (xs.drop (j + 1)) b
  exact ⟨xs.length - (j + 1), ⟨bin .add .i64 i 1⟩, by omega, ⟨⟨rfl, rfl, rfl, trivial⟩, rfl, trivial, rfl, .refl _⟩, j + 1, hi2, hlt, rfl, by rw [hp]; exact plc_step _ _ _⟩

structure Lw where
  i : Int
  zs : List Value




theorem ints_app (k : IntKind) (a b : List Int) : ints k (a ++ b) = ints k a ++ ints k b := by simp [ints]

set_option maxRecDepth 100000 in
set_option maxHeartbeats 2000000 in
theorem lowerS {P : Program} (hP : P = Tryd.prog) (R : RO) (x : ByteArray) (xs : List Int) (hx : SB x xs) (hl : xs.length ≤ 100000) (hr : ∀ c ∈ xs, 0 ≤ c ∧ c ≤ 255) :
    RetP P 8 [.string x] R fun _ r => ∃ s, r = .string s ∧ SB s (xs.map low) := by
  subst hP
  have hsz := hx.size
  refine retP_vc (fz := []) Tryd.func8 rfl (by decide) rfl ok8 ?_
  intro P bin cmp cnv neg com bnot beq ofN toN at_ sub_ scmp cat sget ssz ssub elem fld_ hP hA
  conv => cbv
  refine gen_s2b rfl rfl (by rw [hP]; exact Tryd.underlying9) (by rw [hP]; exact Tryd.underlying22) (by rw [hP]; exact Tryd.underlying5) (by omega) ?_
  intro a N cap z0 hN hz0
  rw [hx] at hz0
  conv => cbv
  have o := ofN_ hA N
  refine ⟨Lw, fun y => ⟨[(4, .v (.int .i64 y.i)), (3, .v (.slice (some a) N cap))], R, [], 0, [⟨some a, N, cap, 5, 1, y.zs⟩]⟩,
    fun k y => ∃ j : Nat, y.i = j ∧ j ≤ xs.length ∧ k = xs.length - j ∧ y.zs = ints .u8 ((xs.take j).map low ++ xs.drop j),
    ⟨xs.length, ⟨0, z0⟩, ⟨⟨rfl, rfl, trivial⟩, rfl, trivial, rfl, .refl _⟩, 0, rfl, Nat.zero_le _, rfl, by rw [hz0]; rfl⟩, ?_⟩
  rintro k ⟨i, zs⟩ ⟨j, hi, hj, hk, hz⟩
  simp only at hi hz
  have hzl : zs.length = xs.length := by rw [hz, ints_len, List.length_append, List.length_map, List.length_take, List.length_drop]; omega
  conv => cbv
  by_cases hlt : j < xs.length
  case neg =>
    refine br_f (by rw [o, cmp_lss hA]; simp; omega) ?_
    rw [List.take_of_length_le (by omega), List.drop_of_length_le (by omega), List.append_nil] at hz
    conv => cbv
    obtain ⟨bs, hbs⟩ := sb_mk (xs := xs.map low) (fun y hy => by
      obtain ⟨w, hw, rfl⟩ := List.mem_map.1 hy
      have := hr w hw
      unfold low cp
      split <;> simp_all <;> omega)
    refine ⟨N, zs, bs, src_row (r := ⟨some a, N, cap, 5, 1, zs⟩) (List.mem_cons_self ..) (fun _ => rfl) (by show zs.length = _; rw [hzl, hN, hsz, Nat.mul_one]) (by show ∀ v ∈ zs, _; rw [hz]; exact ints_one _ _), by rw [hz]; exact hbs.symm, ?_⟩
    conv => cbv
    intro ρ R'' _ _ _
    exact ⟨_, rfl, hbs⟩
  refine br_t (by rw [o, cmp_lss hA]; simp; omega) ?_
  conv => cbv
  obtain ⟨d, hd⟩ : ∃ d, xs[j]? = some d := ⟨_, List.getElem?_eq_getElem hlt⟩
  have hdb := hr d (List.mem_of_getElem? hd)
  have hzj : zs[j]? = some (.int .u8 d) := by
    rw [hz, ints, List.getElem?_map, List.getElem?_append_right (by rw [List.length_map, List.length_take]; omega), List.length_map, List.length_take, List.getElem?_drop, show j + (j - min j xs.length) = j by omega, hd]
    rfl
  have ix1 : (0 : Int) ≤ i ∧ i < ofN N := by rw [o]; omega
  have hxj : bin .add .i64 i 1 = ((j + 1 : Nat) : Int) := by rw [hi, add_i64 hA (by omega)]; rfl
  have hij : i.toNat = j := by omega
  have ad1 : elem (some a) i 1 = a.add j := by rw [elem_is hA]; show a.add (i.toNat * 1) = _; rw [hij, Nat.mul_one]
  refine ⟨ix1.1, ix1.2, rfl, ?_⟩
  conv => cbv
  refine ld_row hA 0 (r := ⟨some a, N, cap, 5, 1, zs⟩) rfl rfl rfl (v := .int .u8 d) (by show zs[i.toNat]? = _; rw [hij]; exact hzj) ?_
  conv => cbv
  have hdr := drop_cons hd
  have htk := take_snoc hd
  by_cases h65 : 65 ≤ d
  case neg =>
    have hcp : cp d = false := by unfold cp; simp; omega
    have hlow : low d = d := by unfold low; rw [hcp]; rfl
    have c65 : cmp .geq d 65 = false := by rw [cmp_geq hA]; exact decide_eq_false h65
    simp (maxSteps := 10000000) only [c65]
    conv => cbv
    exact ⟨xs.length - (j + 1), ⟨bin .add .i64 i 1, zs⟩, by omega, ⟨⟨rfl, rfl, trivial⟩, rfl, trivial, rfl, .refl _⟩, j + 1, hxj, hlt, rfl, by rw [hz, low_step hdr htk hlow]⟩
  have c65 : cmp .geq d 65 = true := by rw [cmp_geq hA]; exact decide_eq_true h65
  simp (maxSteps := 10000000) only [c65]
  conv => cbv
  refine ⟨ix1.1, ix1.2, rfl, ?_⟩
  conv => cbv
  refine ld_row hA 0 (r := ⟨some a, N, cap, 5, 1, zs⟩) rfl rfl rfl (v := .int .u8 d) (by show zs[i.toNat]? = _; rw [hij]; exact hzj) ?_
  conv => cbv
  by_cases h90 : d ≤ 90
  case neg =>
    have hcp : cp d = false := by unfold cp; simp; omega
    have hlow : low d = d := by unfold low; rw [hcp]; rfl
    refine br_f (by rw [cmp_leq hA]; exact decide_eq_false h90) ?_
    conv => cbv
    exact ⟨xs.length - (j + 1), ⟨bin .add .i64 i 1, zs⟩, by omega, ⟨⟨rfl, rfl, trivial⟩, rfl, trivial, rfl, .refl _⟩, j + 1, hxj, hlt, rfl, by rw [hz, low_step hdr htk hlow]⟩
  have hcp : cp d = true := by unfold cp; simp; omega
  refine br_t (by rw [cmp_leq hA]; exact decide_eq_true h90) ?_
  conv => cbv
  refine ⟨ix1.1, ix1.2, rfl, ?_⟩
  conv => cbv
  refine ld_row hA 0 (r := ⟨some a, N, cap, 5, 1, zs⟩) rfl rfl rfl (v := .int .u8 d) (by show zs[i.toNat]? = _; rw [hij]; exact hzj) ?_
  conv => cbv
  refine ⟨ix1.1, ix1.2, rfl, ?_⟩
  conv => cbv
  refine ⟨0, _, _, j, rfl, rfl, ad1, by show j + 1 ≤ zs.length; omega, ?_⟩
  intro y1 hy1
  conv => cbv
  have e32 : bin .add .u8 d 32 = d + 32 := add_u8 hA (by omega)
  exact ⟨xs.length - (j + 1), ⟨bin .add .i64 i 1, y1⟩, by omega, ⟨⟨rfl, rfl, trivial⟩, rfl, trivial, rfl, .refl _⟩, j + 1, hxj, hlt, rfl, by
    have h9 : y1 = zs.take j ++ [.int .u8 (bin .add .u8 d 32)] ++ zs.drop (j + 1) := hy1
    have hl1 : (ints .u8 ((xs.take j).map low)).length = j := by rw [ints_len, List.length_map, List.length_take]; omega
    rw [h9, hz, hdr, htk, ints_app, List.take_left' hl1, ← List.drop_drop, List.drop_left' hl1, List.map_append, e32]
    simp [ints, low, hcp]⟩

set_option maxRecDepth 100000 in
set_option maxHeartbeats 2000000 in
theorem lowerI {P : Program} (hP : P = Tryd.prog) (R : RO) (x : ByteArray) (xs : List Int) (hx : SB x xs) (hl : xs.length ≤ 100000) (hr : ∀ c ∈ xs, 0 ≤ c ∧ c ≤ 255) :
    RetP P 15 [.string x] R fun _ r => ∃ s, r = .string s ∧ SB s (xs.map low) := by
  subst hP
  have hsz := hx.size
  refine retP_vc (fz := []) Tryd.func15 rfl (by decide) rfl ok15 ?_
  intro P bin cmp cnv neg com bnot beq ofN toN at_ sub_ scmp cat sget ssz ssub elem fld_ hP hA
  conv => cbv
  refine gen_s2b rfl rfl (by rw [hP]; exact Tryd.underlying9) (by rw [hP]; exact Tryd.underlying22) (by rw [hP]; exact Tryd.underlying5) (by omega) ?_
  intro a N cap z0 hN hz0
  rw [hx] at hz0
  conv => cbv
  have o := ofN_ hA N
  refine ⟨Lw, fun y => ⟨[(4, .v (.int .i64 y.i)), (3, .v (.slice (some a) N cap))], R, [], 0, [⟨some a, N, cap, 5, 1, y.zs⟩]⟩,
    fun k y => ∃ j : Nat, y.i = j ∧ j ≤ xs.length ∧ k = xs.length - j ∧ y.zs = ints .u8 ((xs.take j).map low ++ xs.drop j),
    ⟨xs.length, ⟨0, z0⟩, ⟨⟨rfl, rfl, trivial⟩, rfl, trivial, rfl, .refl _⟩, 0, rfl, Nat.zero_le _, rfl, by rw [hz0]; rfl⟩, ?_⟩
  rintro k ⟨i, zs⟩ ⟨j, hi, hj, hk, hz⟩
  simp only at hi hz
  have hzl : zs.length = xs.length := by rw [hz, ints_len, List.length_append, List.length_map, List.length_take, List.length_drop]; omega
  conv => cbv
  by_cases hlt : j < xs.length
  case neg =>
    refine br_f (by rw [o, cmp_lss hA]; simp; omega) ?_
    rw [List.take_of_length_le (by omega), List.drop_of_length_le (by omega), List.append_nil] at hz
    conv => cbv
    obtain ⟨bs, hbs⟩ := sb_mk (xs := xs.map low) (fun y hy => by
      obtain ⟨w, hw, rfl⟩ := List.mem_map.1 hy
      have := hr w hw
      unfold low cp
      split <;> simp_all <;> omega)
    refine ⟨N, zs, bs, src_row (r := ⟨some a, N, cap, 5, 1, zs⟩) (List.mem_cons_self ..) (fun _ => rfl) (by show zs.length = _; rw [hzl, hN, hsz, Nat.mul_one]) (by show ∀ v ∈ zs, _; rw [hz]; exact ints_one _ _), by rw [hz]; exact hbs.symm, ?_⟩
    conv => cbv
    intro ρ R'' _ _ _
    exact ⟨_, rfl, hbs⟩
  refine br_t (by rw [o, cmp_lss hA]; simp; omega) ?_
  conv => cbv
  obtain ⟨d, hd⟩ : ∃ d, xs[j]? = some d := ⟨_, List.getElem?_eq_getElem hlt⟩
  have hdb := hr d (List.mem_of_getElem? hd)
  have hzj : zs[j]? = some (.int .u8 d) := by
    rw [hz, ints, List.getElem?_map, List.getElem?_append_right (by rw [List.length_map, List.length_take]; omega), List.length_map, List.length_take, List.getElem?_drop, show j + (j - min j xs.length) = j by omega, hd]
    rfl
  have ix1 : (0 : Int) ≤ i ∧ i < ofN N := by rw [o]; omega
  have hxj : bin .add .i64 i 1 = ((j + 1 : Nat) : Int) := by rw [hi, add_i64 hA (by omega)]; rfl
  have hij : i.toNat = j := by omega
  have ad1 : elem (some a) i 1 = a.add j := by rw [elem_is hA]; show a.add (i.toNat * 1) = _; rw [hij, Nat.mul_one]
  refine ⟨ix1.1, ix1.2, rfl, ?_⟩
  conv => cbv
  refine ld_row hA 0 (r := ⟨some a, N, cap, 5, 1, zs⟩) rfl rfl rfl (v := .int .u8 d) (by show zs[i.toNat]? = _; rw [hij]; exact hzj) ?_
  conv => cbv
  have hdr := drop_cons hd
  have htk := take_snoc hd
  by_cases h65 : 65 ≤ d
  case neg =>
    have hcp : cp d = false := by unfold cp; simp; omega
    have hlow : low d = d := by unfold low; rw [hcp]; rfl
    have c65 : cmp .leq 65 d = false := by rw [cmp_leq hA]; exact decide_eq_false h65
    simp (maxSteps := 10000000) only [c65]
    conv => cbv
    exact ⟨xs.length - (j + 1), ⟨bin .add .i64 i 1, zs⟩, by omega, ⟨⟨rfl, rfl, trivial⟩, rfl, trivial, rfl, .refl _⟩, j + 1, hxj, hlt, rfl, by rw [hz, low_step hdr htk hlow]⟩
  have c65 : cmp .leq 65 d = true := by rw [cmp_leq hA]; exact decide_eq_true h65
  simp (maxSteps := 10000000) only [c65]
  conv => cbv
  refine ⟨ix1.1, ix1.2, rfl, ?_⟩
  conv => cbv
  refine ld_row hA 0 (r := ⟨some a, N, cap, 5, 1, zs⟩) rfl rfl rfl (v := .int .u8 d) (by show zs[i.toNat]? = _; rw [hij]; exact hzj) ?_
  conv => cbv
  by_cases h90 : d ≤ 90
  case neg =>
    have hcp : cp d = false := by unfold cp; simp; omega
    have hlow : low d = d := by unfold low; rw [hcp]; rfl
    refine br_f (by rw [cmp_leq hA]; exact decide_eq_false h90) ?_
    conv => cbv
    exact ⟨xs.length - (j + 1), ⟨bin .add .i64 i 1, zs⟩, by omega, ⟨⟨rfl, rfl, trivial⟩, rfl, trivial, rfl, .refl _⟩, j + 1, hxj, hlt, rfl, by rw [hz, low_step hdr htk hlow]⟩
  have hcp : cp d = true := by unfold cp; simp; omega
  refine br_t (by rw [cmp_leq hA]; exact decide_eq_true h90) ?_
  conv => cbv
  refine ⟨ix1.1, ix1.2, rfl, ?_⟩
  conv => cbv
  refine ld_row hA 0 (r := ⟨some a, N, cap, 5, 1, zs⟩) rfl rfl rfl (v := .int .u8 d) (by show zs[i.toNat]? = _; rw [hij]; exact hzj) ?_
  conv => cbv
  refine ⟨ix1.1, ix1.2, rfl, ?_⟩
  conv => cbv
  refine ⟨0, _, _, j, rfl, rfl, ad1, by show j + 1 ≤ zs.length; omega, ?_⟩
  intro y1 hy1
  conv => cbv
  have e32 : bin .add .u8 d 32 = d + 32 := add_u8 hA (by omega)
  exact ⟨xs.length - (j + 1), ⟨bin .add .i64 i 1, y1⟩, by omega, ⟨⟨rfl, rfl, trivial⟩, rfl, trivial, rfl, .refl _⟩, j + 1, hxj, hlt, rfl, by
    have h9 : y1 = zs.take j ++ [.int .u8 (bin .add .u8 d 32)] ++ zs.drop (j + 1) := hy1
    have hl1 : (ints .u8 ((xs.take j).map low)).length = j := by rw [ints_len, List.length_map, List.length_take]; omega
    rw [h9, hz, hdr, htk, ints_app, List.take_left' hl1, ← List.drop_drop, List.drop_left' hl1, List.map_append, e32]
    simp [ints, low, hcp]⟩
end Go.Proofs.YtfkdaelfehibcaaDoor.Be
