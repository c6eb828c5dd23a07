/- Texts of bech32: what the package reads. -/
import Derived.Test.YtfkdaelfehibcaaDoorBeh
import Derived.Test.YtfkdaelfehibcaaDoorTybh
set_option linter.unusedSimpArgs false
set_option linter.unusedVariables false
namespace Go.Proofs.YtfkdaelfehibcaaDoor.Be
open Go Go.Se Go.Proofs Go.Proofs.YtfkdaelfehibcaaDoor.Tybh

theorem or_tr (b : Bool) : true = (true || b) := rfl

theorem any_take {f : Int → Bool} {xs : List Int} {j : Nat} (h : (xs.take j).any f = true) : xs.any f = true := by
  obtain ⟨x, h1, h2⟩ := List.any_eq_true.1 h
  exact List.any_eq_true.2 ⟨x, List.mem_of_mem_take h1, h2⟩

theorem low_49 (x : Int) : (low x = 49) ↔ x = 49 := by
  unfold low cp
  split
  · rename_i h
    have := of_decide_eq_true h
    omega
  · exact Iff.rfl

theorem lst_low (xs : List Int) : lst 49 (xs.map low) = lst 49 xs := by
  induction xs with
  | nil => rfl
  | cons x r ih =>
    rw [List.map_cons, lst, lst, ih]
    by_cases h : x = 49
    · rw [if_pos h, if_pos ((low_49 x).2 h)]
    · rw [if_neg h, if_neg (fun h2 => h ((low_49 x).1 h2))]

theorem low_same {xs : List Int} (h : xs.any cp = false) : xs.map low = xs := by
  have : ∀ x ∈ xs, low x = x := fun x hx => by
    have h1 : cp x = false := by
      cases hc : cp x with
      | false => rfl
      | true => rw [List.any_eq_true.2 ⟨x, hx, hc⟩] at h; cases h
    unfold low
    rw [h1]
    rfl
  rw [List.map_congr_left this]
  exact List.map_id _

def OutI (xs : List Int) (R' : RO) (r : Value) : Prop :=
  ∃ h a n c v er, r = .tuple #[.string h, .slice a n c, .int .u8 v, er] ∧ ((er = .nilIface ∧ ∃ hs ds, Fm xs hs ds ∧ Sm hs ds ∧ SB h hs ∧ RI R' .u8 a n (ds.take (ds.length - 6)) ∧ n ≤ 2000) ∨ ((∃ T u, er = .iface T u) ∧ ∀ hs ds, Fm xs hs ds → ¬ Sm hs ds))







set_option maxRecDepth 100000 in
set_option maxHeartbeats 4000000 in
theorem decodeI {P : Program} (hP : P = Tryd.prog) (R : RO) (ga : Option Addr) (g5 cg : Nat) (hg : Gen R ga g5 cg) (hg5 : g5 = 5) (hgs : ga.isSome = true) (x : ByteArray) (xs : List Int) (hx : SB x xs) (hl : xs.length ≤ 2000) :
    RetP P 14 [.string x] R fun R' r => OutI xs R' r := by
  subst hP
  have hsz := hx.size
  refine retP_vc (fz := []) Tryd.func14 rfl (by decide) rfl ok14 ?_
  intro P bin cmp cnv neg com bnot beq ofN toN at_ sub_ scmp cat sget ssz ssub elem fld_ hP hA
  conv => cbv
  have oz : ofN (ssz x) = (xs.length : Int) := by rw [ofN_ hA, ssz_ hA, hsz]
  by_cases h8 : xs.length < 8
  · refine br_t (by rw [oz, cmp_lss hA]; simp; omega) ?_
    conv => cbv
    intro ρ R'' hle _ hpr
    refine ⟨_, _, _, _, _, _, rfl, .inr ⟨⟨_, _, rfl⟩, ?_⟩⟩
    exact fun hs ds f => absurd f.len.1 (by omega)
  refine br_f (by rw [oz, cmp_lss hA]; simp; omega) ?_
  conv => cbv
  refine ⟨Lm, fun y => ⟨[(0, .v (.string x)), (6, .v (.bool y.s)), (7, .v (.bool y.c)), (8, .v (.int .i64 y.i))], R, [], 0, []⟩,
    fun k y => ∃ j : Nat, y.i = j ∧ j ≤ xs.length ∧ k = xs.length - j ∧ y.s = (xs.take j).any sm ∧ y.c = (xs.take j).any cp ∧ (y.s && y.c) = false ∧ ∀ d ∈ xs.take j, 33 ≤ d ∧ d ≤ 126,
    ⟨xs.length, ⟨false, false, 0⟩, ⟨⟨rfl, rfl, rfl, rfl, trivial⟩, rfl, trivial, rfl, .refl _⟩, 0, rfl, Nat.zero_le _, rfl, rfl, rfl, rfl, fun d hd => by simp at hd⟩, ?_⟩
  rintro k ⟨s, c, i⟩ ⟨j, hi, hj, hk, hs, hc, hsc, hrn⟩
  simp only at hi hs hc hsc
  conv => cbv
  by_cases hlt : j < xs.length
  case pos =>
    refine br_t (by rw [oz, cmp_lss hA]; simp; omega) ?_
    conv => cbv
    obtain ⟨d, hd⟩ : ∃ d, xs[j]? = some d := ⟨_, List.getElem?_eq_getElem hlt⟩
    have hts := any_snoc sm hd
    have htc := any_snoc cp hd
    have hix : (0 : Int) ≤ i ∧ i < (x.size : Int) := by rw [hsz]; omega
    have hget : sget x i = d := sb_get hA hx j hi hd
    have hi2 : bin .add .i64 i 1 = ((j + 1 : Nat) : Int) := by rw [hi, add_i64 hA (by omega)]; rfl
    have hdm := List.mem_of_getElem? hd
    refine ⟨hix, ?_⟩
    simp (maxSteps := 10000000) only [hget]
    by_cases h33 : d < 33
    · have e1 : cmp .lss d 33 = true := by rw [cmp_lss hA]; exact decide_eq_true h33
      simp (maxSteps := 10000000) only [e1]
      conv => cbv
      refine ⟨[0, 1, 2, 3, 4, 5, 6, 7, 8], [], mix hP, by kernel_rfl, ?_⟩
      conv => cbv
      refine ⟨hix, ?_⟩
      conv => cbv
      intro ρ R'' hle _ hpr
      refine ⟨_, _, _, _, _, _, rfl, .inr ⟨⟨_, _, rfl⟩, ?_⟩⟩
      exact fun hs ds f => absurd (f.rng d hdm).1 (by omega)
    have e1 : cmp .lss d 33 = false := by rw [cmp_lss hA]; exact decide_eq_false h33
    simp (maxSteps := 10000000) only [e1]
    conv => cbv
    refine ⟨hix, ?_⟩
    simp (maxSteps := 10000000) only [hget]
    by_cases h126 : 126 < d
    · refine br_t (by rw [cmp_gtr hA]; exact decide_eq_true h126) ?_
      conv => cbv
      refine ⟨[0, 1, 2, 3, 4, 5, 6, 7, 8], [], mix hP, by kernel_rfl, ?_⟩
      conv => cbv
      refine ⟨hix, ?_⟩
      conv => cbv
      intro ρ R'' hle _ hpr
      refine ⟨_, _, _, _, _, _, rfl, .inr ⟨⟨_, _, rfl⟩, ?_⟩⟩
      exact fun hs ds f => absurd (f.rng d hdm).2 (by omega)
    refine br_f (by rw [cmp_gtr hA]; exact decide_eq_false h126) ?_
    conv => cbv
    have hrn2 : ∀ e ∈ xs.take (j + 1), 33 ≤ e ∧ e ≤ 126 := by
      intro e he
      rw [take_snoc hd] at he
      rcases List.mem_append.1 he with h | h
      · exact hrn e h
      · rw [List.mem_singleton.1 h]; omega
    cases s with
    | true =>
      conv => cbv
      cases c with
      | true =>
        conv => cbv
        intro ρ R'' hle _ hpr
        refine ⟨_, _, _, _, _, _, rfl, .inr ⟨⟨_, _, rfl⟩, ?_⟩⟩
        intro hs' ds' f
        have e1 : (xs.take (j + 1)).any sm = true := by rw [hts, ← hs]; exact ((or_tr (sm d))).symm
        have e2 : (xs.take (j + 1)).any cp = true := by rw [htc, ← hc]; exact ((or_tr (cp d))).symm
        have := f.mix
        rw [any_take e1, any_take e2] at this
        cases this
      | false =>
        conv => cbv
        refine ⟨hix, ?_⟩
        simp (maxSteps := 10000000) only [hget]
        by_cases h65 : 65 ≤ d
        case neg =>
          have c65 : cmp .geq d 65 = false := by rw [cmp_geq hA]; exact decide_eq_false h65
          simp (maxSteps := 10000000) only [c65]
          conv => cbv
          exact ⟨xs.length - (j + 1), ⟨true, false, bin .add .i64 i 1⟩, by omega, ⟨⟨rfl, rfl, rfl, rfl, trivial⟩, rfl, trivial, rfl, .refl _⟩, j + 1, hi2, hlt, rfl, by show true = _; rw [hts, ← hs]; exact (or_tr (sm d)), by show false = _; rw [htc, ← hc]; exact (cp_f65 h65), rfl, hrn2⟩
        have c65 : cmp .geq d 65 = true := by rw [cmp_geq hA]; exact decide_eq_true h65
        simp (maxSteps := 10000000) only [c65]
        conv => cbv
        refine ⟨hix, ?_⟩
        simp (maxSteps := 10000000) only [hget]
        by_cases h90 : d ≤ 90
        · have c90 : cmp .leq d 90 = true := by rw [cmp_leq hA]; exact decide_eq_true h90
          simp (maxSteps := 10000000) only [c90]
          conv => cbv
          intro ρ R'' hle _ hpr
          refine ⟨_, _, _, _, _, _, rfl, .inr ⟨⟨_, _, rfl⟩, ?_⟩⟩
          intro hs' ds' f
          have e1 : (xs.take (j + 1)).any sm = true := by rw [hts, ← hs]; exact ((or_tr (sm d))).symm
          have e2 : (xs.take (j + 1)).any cp = true := by rw [htc, ← hc]; exact (((decide_eq_true h90).symm.trans (cp_t65 h65))).symm
          have := f.mix
          rw [any_take e1, any_take e2] at this
          cases this
        · have c90 : cmp .leq d 90 = false := by rw [cmp_leq hA]; exact decide_eq_false h90
          simp (maxSteps := 10000000) only [c90]
          conv => cbv
          exact ⟨xs.length - (j + 1), ⟨true, false, bin .add .i64 i 1⟩, by omega, ⟨⟨rfl, rfl, rfl, rfl, trivial⟩, rfl, trivial, rfl, .refl _⟩, j + 1, hi2, hlt, rfl, by show true = _; rw [hts, ← hs]; exact (or_tr (sm d)), by show false = _; rw [htc, ← hc]; exact ((decide_eq_false h90).symm.trans (cp_t65 h65)), rfl, hrn2⟩
    | false =>
      conv => cbv
      refine ⟨hix, ?_⟩
      simp (maxSteps := 10000000) only [hget]
      by_cases h97 : 97 ≤ d
      case neg =>
        have c97 : cmp .geq d 97 = false := by rw [cmp_geq hA]; exact decide_eq_false h97
        simp (maxSteps := 10000000) only [c97]
        conv => cbv
        cases c with
        | true =>
          conv => cbv
          exact ⟨xs.length - (j + 1), ⟨false, true, bin .add .i64 i 1⟩, by omega, ⟨⟨rfl, rfl, rfl, rfl, trivial⟩, rfl, trivial, rfl, .refl _⟩, j + 1, hi2, hlt, rfl, by show false = _; rw [hts, ← hs]; exact (sm_f97 h97), by show true = _; rw [htc, ← hc]; exact rfl, rfl, hrn2⟩
        | false =>
          conv => cbv
          refine ⟨hix, ?_⟩
          simp (maxSteps := 10000000) only [hget]
          by_cases h65 : 65 ≤ d
          case neg =>
            have c65 : cmp .geq d 65 = false := by rw [cmp_geq hA]; exact decide_eq_false h65
            simp (maxSteps := 10000000) only [c65]
            conv => cbv
            exact ⟨xs.length - (j + 1), ⟨false, false, bin .add .i64 i 1⟩, by omega, ⟨⟨rfl, rfl, rfl, rfl, trivial⟩, rfl, trivial, rfl, .refl _⟩, j + 1, hi2, hlt, rfl, by show false = _; rw [hts, ← hs]; exact (sm_f97 h97), by show false = _; rw [htc, ← hc]; exact (cp_f65 h65), rfl, hrn2⟩
          have c65 : cmp .geq d 65 = true := by rw [cmp_geq hA]; exact decide_eq_true h65
          simp (maxSteps := 10000000) only [c65]
          conv => cbv
          refine ⟨hix, ?_⟩
          simp (maxSteps := 10000000) only [hget]
          by_cases h90 : d ≤ 90
          · have c90 : cmp .leq d 90 = true := by rw [cmp_leq hA]; exact decide_eq_true h90
            simp (maxSteps := 10000000) only [c90]
            conv => cbv
            exact ⟨xs.length - (j + 1), ⟨false, true, bin .add .i64 i 1⟩, by omega, ⟨⟨rfl, rfl, rfl, rfl, trivial⟩, rfl, trivial, rfl, .refl _⟩, j + 1, hi2, hlt, rfl, by show false = _; rw [hts, ← hs]; exact (sm_f97 h97), by show true = _; rw [htc, ← hc]; exact ((decide_eq_true h90).symm.trans (cp_t65 h65)), rfl, hrn2⟩
          · have c90 : cmp .leq d 90 = false := by rw [cmp_leq hA]; exact decide_eq_false h90
            simp (maxSteps := 10000000) only [c90]
            conv => cbv
            exact ⟨xs.length - (j + 1), ⟨false, false, bin .add .i64 i 1⟩, by omega, ⟨⟨rfl, rfl, rfl, rfl, trivial⟩, rfl, trivial, rfl, .refl _⟩, j + 1, hi2, hlt, rfl, by show false = _; rw [hts, ← hs]; exact (sm_f97 h97), by show false = _; rw [htc, ← hc]; exact ((decide_eq_false h90).symm.trans (cp_t65 h65)), rfl, hrn2⟩
      have c97 : cmp .geq d 97 = true := by rw [cmp_geq hA]; exact decide_eq_true h97
      simp (maxSteps := 10000000) only [c97]
      conv => cbv
      refine ⟨hix, ?_⟩
      simp (maxSteps := 10000000) only [hget]
      by_cases h122 : d ≤ 122
      · have c122 : cmp .leq d 122 = true := by rw [cmp_leq hA]; exact decide_eq_true h122
        simp (maxSteps := 10000000) only [c122]
        conv => cbv
        cases c with
        | true =>
          conv => cbv
          intro ρ R'' hle _ hpr
          refine ⟨_, _, _, _, _, _, rfl, .inr ⟨⟨_, _, rfl⟩, ?_⟩⟩
          intro hs' ds' f
          have e1 : (xs.take (j + 1)).any sm = true := by rw [hts, ← hs]; exact (((decide_eq_true h122).symm.trans (sm_t97 h97))).symm
          have e2 : (xs.take (j + 1)).any cp = true := by rw [htc, ← hc]; exact ((or_tr (cp d))).symm
          have := f.mix
          rw [any_take e1, any_take e2] at this
          cases this
        | false =>
          conv => cbv
          refine ⟨hix, ?_⟩
          simp (maxSteps := 10000000) only [hget]
          by_cases h65 : 65 ≤ d
          case neg =>
            have c65 : cmp .geq d 65 = false := by rw [cmp_geq hA]; exact decide_eq_false h65
            simp (maxSteps := 10000000) only [c65]
            conv => cbv
            exact ⟨xs.length - (j + 1), ⟨true, false, bin .add .i64 i 1⟩, by omega, ⟨⟨rfl, rfl, rfl, rfl, trivial⟩, rfl, trivial, rfl, .refl _⟩, j + 1, hi2, hlt, rfl, by show true = _; rw [hts, ← hs]; exact ((decide_eq_true h122).symm.trans (sm_t97 h97)), by show false = _; rw [htc, ← hc]; exact (cp_f65 h65), rfl, hrn2⟩
          have c65 : cmp .geq d 65 = true := by rw [cmp_geq hA]; exact decide_eq_true h65
          simp (maxSteps := 10000000) only [c65]
          conv => cbv
          refine ⟨hix, ?_⟩
          simp (maxSteps := 10000000) only [hget]
          by_cases h90 : d ≤ 90
          · have c90 : cmp .leq d 90 = true := by rw [cmp_leq hA]; exact decide_eq_true h90
            simp (maxSteps := 10000000) only [c90]
            conv => cbv
            intro ρ R'' hle _ hpr
            refine ⟨_, _, _, _, _, _, rfl, .inr ⟨⟨_, _, rfl⟩, ?_⟩⟩
            intro hs' ds' f
            have e1 : (xs.take (j + 1)).any sm = true := by rw [hts, ← hs]; exact (((decide_eq_true h122).symm.trans (sm_t97 h97))).symm
            have e2 : (xs.take (j + 1)).any cp = true := by rw [htc, ← hc]; exact (((decide_eq_true h90).symm.trans (cp_t65 h65))).symm
            have := f.mix
            rw [any_take e1, any_take e2] at this
            cases this
          · have c90 : cmp .leq d 90 = false := by rw [cmp_leq hA]; exact decide_eq_false h90
            simp (maxSteps := 10000000) only [c90]
            conv => cbv
            exact ⟨xs.length - (j + 1), ⟨true, false, bin .add .i64 i 1⟩, by omega, ⟨⟨rfl, rfl, rfl, rfl, trivial⟩, rfl, trivial, rfl, .refl _⟩, j + 1, hi2, hlt, rfl, by show true = _; rw [hts, ← hs]; exact ((decide_eq_true h122).symm.trans (sm_t97 h97)), by show false = _; rw [htc, ← hc]; exact ((decide_eq_false h90).symm.trans (cp_t65 h65)), rfl, hrn2⟩
      · have c122 : cmp .leq d 122 = false := by rw [cmp_leq hA]; exact decide_eq_false h122
        simp (maxSteps := 10000000) only [c122]
        conv => cbv
        cases c with
        | true =>
          conv => cbv
          exact ⟨xs.length - (j + 1), ⟨false, true, bin .add .i64 i 1⟩, by omega, ⟨⟨rfl, rfl, rfl, rfl, trivial⟩, rfl, trivial, rfl, .refl _⟩, j + 1, hi2, hlt, rfl, by show false = _; rw [hts, ← hs]; exact ((decide_eq_false h122).symm.trans (sm_t97 h97)), by show true = _; rw [htc, ← hc]; exact rfl, rfl, hrn2⟩
        | false =>
          conv => cbv
          refine ⟨hix, ?_⟩
          simp (maxSteps := 10000000) only [hget]
          by_cases h65 : 65 ≤ d
          case neg =>
            have c65 : cmp .geq d 65 = false := by rw [cmp_geq hA]; exact decide_eq_false h65
            simp (maxSteps := 10000000) only [c65]
            conv => cbv
            exact ⟨xs.length - (j + 1), ⟨false, false, bin .add .i64 i 1⟩, by omega, ⟨⟨rfl, rfl, rfl, rfl, trivial⟩, rfl, trivial, rfl, .refl _⟩, j + 1, hi2, hlt, rfl, by show false = _; rw [hts, ← hs]; exact ((decide_eq_false h122).symm.trans (sm_t97 h97)), by show false = _; rw [htc, ← hc]; exact (cp_f65 h65), rfl, hrn2⟩
          have c65 : cmp .geq d 65 = true := by rw [cmp_geq hA]; exact decide_eq_true h65
          simp (maxSteps := 10000000) only [c65]
          conv => cbv
          refine ⟨hix, ?_⟩
          simp (maxSteps := 10000000) only [hget]
          by_cases h90 : d ≤ 90
          · have c90 : cmp .leq d 90 = true := by rw [cmp_leq hA]; exact decide_eq_true h90
            simp (maxSteps := 10000000) only [c90]
            conv => cbv
            exact ⟨xs.length - (j + 1), ⟨false, true, bin .add .i64 i 1⟩, by omega, ⟨⟨rfl, rfl, rfl, rfl, trivial⟩, rfl, trivial, rfl, .refl _⟩, j + 1, hi2, hlt, rfl, by show false = _; rw [hts, ← hs]; exact ((decide_eq_false h122).symm.trans (sm_t97 h97)), by show true = _; rw [htc, ← hc]; exact ((decide_eq_true h90).symm.trans (cp_t65 h65)), rfl, hrn2⟩
          · have c90 : cmp .leq d 90 = false := by rw [cmp_leq hA]; exact decide_eq_false h90
            simp (maxSteps := 10000000) only [c90]
            conv => cbv
            exact ⟨xs.length - (j + 1), ⟨false, false, bin .add .i64 i 1⟩, by omega, ⟨⟨rfl, rfl, rfl, rfl, trivial⟩, rfl, trivial, rfl, .refl _⟩, j + 1, hi2, hlt, rfl, by show false = _; rw [hts, ← hs]; exact ((decide_eq_false h122).symm.trans (sm_t97 h97)), by show false = _; rw [htc, ← hc]; exact ((decide_eq_false h90).symm.trans (cp_t65 h65)), rfl, hrn2⟩
  refine br_f (by rw [oz, cmp_lss hA]; simp; omega) ?_
  have hjl : j = xs.length := by omega
  subst hjl
  rw [List.take_length] at hs hc hrn
  have hmix : (xs.any sm && xs.any cp) = false := by rw [← hs, ← hc]; exact hsc
  conv => cbv
  obtain ⟨ys, hys⟩ : ∃ ys, ys = xs.map low := ⟨_, rfl⟩
  have hyl : ys.length = xs.length := by rw [hys, List.length_map]
  have hyr : ∀ y ∈ ys, 33 ≤ y ∧ y ≤ 126 := fun y hy => by
    rw [hys] at hy
    obtain ⟨w, hw, rfl⟩ := List.mem_map.1 hy
    exact low_rng (hrn w hw)
  cases c with
  | true =>
    conv => cbv
    refine (lowerI hP R x xs hx (by omega) (fun c hc => by have := hrn c hc; omega)).callQ rfl ?_
    rintro _ ⟨t, rfl, hss⟩
    rw [← hys] at hss
    conv => cbv
    have hsz2 := hss.size
    have oz2 : ofN (ssz t) = (xs.length : Int) := by rw [ofN_ hA, ssz_ hA, hsz2, hyl]
    refine (lstI hP R t ys hss (by omega) 49).callQ rfl ?_
    rintro _ ⟨o, rfl, ho⟩
    rw [hys, lst_low] at ho
    conv => cbv
    have hlb := lst_bd 49 xs
    by_cases ho1 : o < 1
    · have e1 : cmp .lss o 1 = true := by rw [cmp_lss hA]; exact decide_eq_true ho1
      simp (maxSteps := 10000000) only [e1]
      conv => cbv
      intro ρ R'' hle _ hpr
      refine ⟨_, _, _, _, _, _, rfl, .inr ⟨⟨_, _, rfl⟩, ?_⟩⟩
      exact fun hs ds f => by obtain ⟨o', h1, h2, _⟩ := f.one; omega
    have e1 : cmp .lss o 1 = false := by rw [cmp_lss hA]; exact decide_eq_false ho1
    simp (maxSteps := 10000000) only [e1]
    conv => cbv
    obtain ⟨O, hO⟩ : ∃ O : Nat, o = O := ⟨o.toNat, by omega⟩
    have e7 : bin .add .i64 o 7 = ((O + 7 : Nat) : Int) := by rw [hO, add_i64 hA (by omega)]; rfl
    by_cases ho7 : xs.length < O + 7
    · refine br_t (by rw [oz2, e7, cmp_gtr hA]; simp; omega) ?_
      conv => cbv
      intro ρ R'' hle _ hpr
      refine ⟨_, _, _, _, _, _, rfl, .inr ⟨⟨_, _, rfl⟩, ?_⟩⟩
      exact fun hs ds f => by obtain ⟨o', h1, h2, h3, _⟩ := f.one; omega
    refine br_f (by rw [oz2, e7, cmp_gtr hA]; simp; omega) ?_
    conv => cbv
    refine ⟨0, O, rfl, hO.symm, Nat.zero_le _, by omega, ?_⟩
    intro h hh
    have hsbh : SB h (ys.take O) := by rw [hh]; exact hss.ext 0 O
    conv => cbv
    have e8 : bin .add .i64 o 1 = ((O + 1 : Nat) : Int) := by rw [hO, add_i64 hA (by omega)]; rfl
    obtain ⟨ts, hts⟩ : ∃ ts, ts = ys.drop (O + 1) := ⟨_, rfl⟩
    obtain ⟨O1, hO1⟩ : ∃ O1, O1 = O + 1 := ⟨_, rfl⟩
    rw [← hO1] at e8 hts
    obtain ⟨Z, hZ⟩ : ∃ Z, Z = t.size := ⟨_, rfl⟩
    refine ⟨O1, Z, e8.symm, by rw [hZ]; rfl, by omega, by omega, ?_⟩
    intro dt hdt
    have hsbd : SB dt ts := by
      rw [hdt]
      have := hss.ext O1 Z
      rwa [List.take_of_length_le (by rw [List.length_drop]; omega), ← hts] at this
    conv => cbv
    have htl : ts.length = xs.length - (O + 1) := by rw [hts, List.length_drop, hyl]; omega
    have htr : ∀ y ∈ ts, 33 ≤ y ∧ y ≤ 126 := fun y hy => hyr y (by rw [hts] at hy; exact List.mem_of_mem_drop hy)
    refine (toBytesI hP R dt ts hsbd (by omega) (fun y hy => by have := htr y hy; omega)).callP rfl ?_
    rintro R1 _ hR1 ⟨a1, n1, c1, er, rfl, hcase⟩
    conv => cbv
    rcases hcase with ⟨rfl, hnn, hri, hnc, hs1⟩ | ⟨⟨T, u, rfl⟩, d, hd, hdn⟩
    case inr =>
      refine br_t (by show bnot false = true; rw [bnot_ hA]; rfl) ?_
      conv => cbv
      intro ρ R'' hle _ hpr
      refine ⟨_, _, _, _, _, _, rfl, .inr ⟨⟨_, _, rfl⟩, ?_⟩⟩
      exact fun hs ds f => by
        obtain ⟨o', h1, h2, h3, h4, h5, h6⟩ := f.one
        have : o' + 1 = O1 := by omega
        have := h6 d (by rw [← hys, this, ← hts]; exact hd)
        omega
    refine br_f (by show bnot true = false; rw [bnot_ hA]; rfl) ?_
    conv => cbv
    have hg1 := hg.le hR1
    obtain ⟨ds, hds⟩ : ∃ ds, ds = dgs ts := ⟨_, rfl⟩
    rw [← hds] at hri
    have hrl := hri.len
    have hdl : ds.length = ts.length := by rw [hds, dgs, List.length_map]
    obtain ⟨hs, hhs⟩ : ∃ hs, hs = ys.take O := ⟨_, rfl⟩
    rw [← hhs] at hsbh
    have hhr : ∀ y ∈ hs, 0 ≤ y ∧ y ≤ 255 := fun y hy => by have := hyr y (by rw [hhs] at hy; exact List.mem_of_mem_take hy); omega
    have hhl : hs.length = O := by rw [hhs, List.length_take]; omega
    have hfm : Fm xs hs ds := ⟨⟨by omega, hl⟩, hmix, hrn, O, by omega, by omega, by omega, by rw [hhs, hys], by rw [hds, hts, hys, hO1], by rw [← hys, ← hO1, ← hts]; exact hnn⟩
    refine (verifyI hP R1 ga g5 cg hg1 hg5 hgs h hs hsbh (by omega) hhr a1 n1 c1 ds hri (by omega) hnc (by omega) (hs1 (by omega))).callQ rfl ?_
    rintro _ ⟨v, b, rfl, hb⟩
    conv => cbv
    obtain ⟨N6, hN6⟩ : ∃ N, N = n1 - 6 := ⟨_, rfl⟩
    have hn6 : bin .sub .i64 (ofN n1) 6 = ((N6 : Nat) : Int) := by rw [ofN_ hA, sub_i64 hA (by omega)]; omega
    rcases hb with ⟨rfl, hsm⟩ | ⟨rfl, hsm⟩
    · refine br_f (by rw [bnot_ hA]; rfl) ?_
      conv => cbv
      refine ⟨[0, 1, 2, 3, 4, 5, 6, 7, 8, 9, 10], [], mix hP, by kernel_rfl, ?_⟩
      conv => cbv
      refine ⟨0, N6, rfl, hn6.symm, Nat.zero_le _, by omega, ?_⟩
      intro a2 n2 c2 hn2 hc2 ha2
      have hp2 := (hri.part' (l := 0) (m := N6) (Nat.zero_le _) (by omega) hn2 hnc ha2)
      conv => cbv
      intro ρ R'' hle _ hpr
      have hp3 : RI R'' .u8 a2 n2 (ds.take (ds.length - 6)) := by
        have := hp2.le hle
        rw [List.drop_zero, Nat.sub_zero] at this
        rwa [← hrl, ← hN6]
      exact ⟨_, _, _, _, _, _, rfl, .inl ⟨rfl, hs, ds, hfm, hsm, hsbh, hp3, by omega⟩⟩
    refine br_t (by rw [bnot_ hA]; rfl) ?_
    conv => cbv
    have es6 : bin .sub .i64 (ofN (ssz t)) 6 = ((Z - 6 : Nat) : Int) := by rw [oz2, sub_i64 hA (by omega)]; omega
    obtain ⟨Z6, hZ6⟩ : ∃ Z6, Z6 = Z - 6 := ⟨_, rfl⟩
    rw [← hZ6] at es6
    refine ⟨Z6, Z, es6.symm, by rw [hZ]; rfl, by omega, by omega, ?_⟩
    intro ac hac
    conv => cbv
    refine ⟨0, N6, rfl, hn6.symm, Nat.zero_le _, by omega, ?_⟩
    intro a2 n2 c2 hn2 hc2 ha2
    have hp2 := (hri.part' (l := 0) (m := N6) (Nat.zero_le _) (by omega) hn2 hnc ha2)
    conv => cbv
    refine growC1 hP R1 [] ?_
    intro a3 c3 r3
    conv => cbv
    refine writeC1 hP R1 ga g5 cg hg1 hg5 hgs h hs hsbh (by omega) hhr a2 n2 c2 _ hp2 (by omega) a3 0 c3 (by decide) ?_
    intro a4 n4 c4 r4 hn4
    conv => cbv
    refine strF1 hP R1 a4 n4 c4 (by omega) (by omega) ?_
    intro s1
    conv => cbv
    refine growC2 hP R1 _ (some a4) n4 c4 ?_
    intro a5 c5 r5
    conv => cbv
    refine writeC2 hP R1 ga g5 cg hg1 hg5 hgs h hs hsbh (by omega) hhr a2 n2 c2 _ hp2 (by omega) a4 n4 c4 (by omega) (some a5) 0 c5 _ ?_
    intro a6 n6 c6 r6 hn6b
    conv => cbv
    refine strF2 hP R1 a6 n6 c6 (by omega) (by omega) (some a5) 0 c5 _ ?_
    intro s2
    conv => cbv
    intro ρ R'' hle _ hpr
    refine ⟨_, _, _, _, _, _, rfl, .inr ⟨⟨_, _, rfl⟩, ?_⟩⟩
    intro hs' ds' f
    obtain ⟨rfl, rfl⟩ := hfm.uniq f
    exact hsm
  | false =>
    conv => cbv
    have hss : SB x ys := by rw [hys, low_same hc.symm]; exact hx
    have hsz2 := hss.size
    have oz2 : ofN (ssz x) = (xs.length : Int) := by rw [ofN_ hA, ssz_ hA, hsz2, hyl]
    refine (lstI hP R x ys hss (by omega) 49).callQ rfl ?_
    rintro _ ⟨o, rfl, ho⟩
    rw [hys, lst_low] at ho
    conv => cbv
    have hlb := lst_bd 49 xs
    by_cases ho1 : o < 1
    · have e1 : cmp .lss o 1 = true := by rw [cmp_lss hA]; exact decide_eq_true ho1
      simp (maxSteps := 10000000) only [e1]
      conv => cbv
      intro ρ R'' hle _ hpr
      refine ⟨_, _, _, _, _, _, rfl, .inr ⟨⟨_, _, rfl⟩, ?_⟩⟩
      exact fun hs ds f => by obtain ⟨o', h1, h2, _⟩ := f.one; omega
    have e1 : cmp .lss o 1 = false := by rw [cmp_lss hA]; exact decide_eq_false ho1
    simp (maxSteps := 10000000) only [e1]
    conv => cbv
    obtain ⟨O, hO⟩ : ∃ O : Nat, o = O := ⟨o.toNat, by omega⟩
    have e7 : bin .add .i64 o 7 = ((O + 7 : Nat) : Int) := by rw [hO, add_i64 hA (by omega)]; rfl
    by_cases ho7 : xs.length < O + 7
    · refine br_t (by rw [oz2, e7, cmp_gtr hA]; simp; omega) ?_
      conv => cbv
      intro ρ R'' hle _ hpr
      refine ⟨_, _, _, _, _, _, rfl, .inr ⟨⟨_, _, rfl⟩, ?_⟩⟩
      exact fun hs ds f => by obtain ⟨o', h1, h2, h3, _⟩ := f.one; omega
    refine br_f (by rw [oz2, e7, cmp_gtr hA]; simp; omega) ?_
    conv => cbv
    refine ⟨0, O, rfl, hO.symm, Nat.zero_le _, by omega, ?_⟩
    intro h hh
    have hsbh : SB h (ys.take O) := by rw [hh]; exact hss.ext 0 O
    conv => cbv
    have e8 : bin .add .i64 o 1 = ((O + 1 : Nat) : Int) := by rw [hO, add_i64 hA (by omega)]; rfl
    obtain ⟨ts, hts⟩ : ∃ ts, ts = ys.drop (O + 1) := ⟨_, rfl⟩
    obtain ⟨O1, hO1⟩ : ∃ O1, O1 = O + 1 := ⟨_, rfl⟩
    rw [← hO1] at e8 hts
    obtain ⟨Z, hZ⟩ : ∃ Z, Z = x.size := ⟨_, rfl⟩
    refine ⟨O1, Z, e8.symm, by rw [hZ]; rfl, by omega, by omega, ?_⟩
    intro dt hdt
    have hsbd : SB dt ts := by
      rw [hdt]
      have := hss.ext O1 Z
      rwa [List.take_of_length_le (by rw [List.length_drop]; omega), ← hts] at this
    conv => cbv
    have htl : ts.length = xs.length - (O + 1) := by rw [hts, List.length_drop, hyl]; omega
    have htr : ∀ y ∈ ts, 33 ≤ y ∧ y ≤ 126 := fun y hy => hyr y (by rw [hts] at hy; exact List.mem_of_mem_drop hy)
    refine (toBytesI hP R dt ts hsbd (by omega) (fun y hy => by have := htr y hy; omega)).callP rfl ?_
    rintro R1 _ hR1 ⟨a1, n1, c1, er, rfl, hcase⟩
    conv => cbv
    rcases hcase with ⟨rfl, hnn, hri, hnc, hs1⟩ | ⟨⟨T, u, rfl⟩, d, hd, hdn⟩
    case inr =>
      refine br_t (by show bnot false = true; rw [bnot_ hA]; rfl) ?_
      conv => cbv
      intro ρ R'' hle _ hpr
      refine ⟨_, _, _, _, _, _, rfl, .inr ⟨⟨_, _, rfl⟩, ?_⟩⟩
      exact fun hs ds f => by
        obtain ⟨o', h1, h2, h3, h4, h5, h6⟩ := f.one
        have : o' + 1 = O1 := by omega
        have := h6 d (by rw [← hys, this, ← hts]; exact hd)
        omega
    refine br_f (by show bnot true = false; rw [bnot_ hA]; rfl) ?_
    conv => cbv
    have hg1 := hg.le hR1
    obtain ⟨ds, hds⟩ : ∃ ds, ds = dgs ts := ⟨_, rfl⟩
    rw [← hds] at hri
    have hrl := hri.len
    have hdl : ds.length = ts.length := by rw [hds, dgs, List.length_map]
    obtain ⟨hs, hhs⟩ : ∃ hs, hs = ys.take O := ⟨_, rfl⟩
    rw [← hhs] at hsbh
    have hhr : ∀ y ∈ hs, 0 ≤ y ∧ y ≤ 255 := fun y hy => by have := hyr y (by rw [hhs] at hy; exact List.mem_of_mem_take hy); omega
    have hhl : hs.length = O := by rw [hhs, List.length_take]; omega
    have hfm : Fm xs hs ds := ⟨⟨by omega, hl⟩, hmix, hrn, O, by omega, by omega, by omega, by rw [hhs, hys], by rw [hds, hts, hys, hO1], by rw [← hys, ← hO1, ← hts]; exact hnn⟩
    refine (verifyI hP R1 ga g5 cg hg1 hg5 hgs h hs hsbh (by omega) hhr a1 n1 c1 ds hri (by omega) hnc (by omega) (hs1 (by omega))).callQ rfl ?_
    rintro _ ⟨v, b, rfl, hb⟩
    conv => cbv
    obtain ⟨N6, hN6⟩ : ∃ N, N = n1 - 6 := ⟨_, rfl⟩
    have hn6 : bin .sub .i64 (ofN n1) 6 = ((N6 : Nat) : Int) := by rw [ofN_ hA, sub_i64 hA (by omega)]; omega
    rcases hb with ⟨rfl, hsm⟩ | ⟨rfl, hsm⟩
    · refine br_f (by rw [bnot_ hA]; rfl) ?_
      conv => cbv
      refine ⟨[0, 1, 2, 3, 4, 5, 6, 7, 8, 9, 10], [], mix hP, by kernel_rfl, ?_⟩
      conv => cbv
      refine ⟨0, N6, rfl, hn6.symm, Nat.zero_le _, by omega, ?_⟩
      intro a2 n2 c2 hn2 hc2 ha2
      have hp2 := (hri.part' (l := 0) (m := N6) (Nat.zero_le _) (by omega) hn2 hnc ha2)
      conv => cbv
      intro ρ R'' hle _ hpr
      have hp3 : RI R'' .u8 a2 n2 (ds.take (ds.length - 6)) := by
        have := hp2.le hle
        rw [List.drop_zero, Nat.sub_zero] at this
        rwa [← hrl, ← hN6]
      exact ⟨_, _, _, _, _, _, rfl, .inl ⟨rfl, hs, ds, hfm, hsm, hsbh, hp3, by omega⟩⟩
    refine br_t (by rw [bnot_ hA]; rfl) ?_
    conv => cbv
    have es6 : bin .sub .i64 (ofN (ssz x)) 6 = ((Z - 6 : Nat) : Int) := by rw [oz2, sub_i64 hA (by omega)]; omega
    obtain ⟨Z6, hZ6⟩ : ∃ Z6, Z6 = Z - 6 := ⟨_, rfl⟩
    rw [← hZ6] at es6
    refine ⟨Z6, Z, es6.symm, by rw [hZ]; rfl, by omega, by omega, ?_⟩
    intro ac hac
    conv => cbv
    refine ⟨0, N6, rfl, hn6.symm, Nat.zero_le _, by omega, ?_⟩
    intro a2 n2 c2 hn2 hc2 ha2
    have hp2 := (hri.part' (l := 0) (m := N6) (Nat.zero_le _) (by omega) hn2 hnc ha2)
    conv => cbv
    refine growC1 hP R1 [] ?_
    intro a3 c3 r3
    conv => cbv
    refine writeC1 hP R1 ga g5 cg hg1 hg5 hgs h hs hsbh (by omega) hhr a2 n2 c2 _ hp2 (by omega) a3 0 c3 (by decide) ?_
    intro a4 n4 c4 r4 hn4
    conv => cbv
    refine strF1 hP R1 a4 n4 c4 (by omega) (by omega) ?_
    intro s1
    conv => cbv
    refine growC2 hP R1 _ (some a4) n4 c4 ?_
    intro a5 c5 r5
    conv => cbv
    refine writeC2 hP R1 ga g5 cg hg1 hg5 hgs h hs hsbh (by omega) hhr a2 n2 c2 _ hp2 (by omega) a4 n4 c4 (by omega) (some a5) 0 c5 _ ?_
    intro a6 n6 c6 r6 hn6b
    conv => cbv
    refine strF2 hP R1 a6 n6 c6 (by omega) (by omega) (some a5) 0 c5 _ ?_
    intro s2
    conv => cbv
    intro ρ R'' hle _ hpr
    refine ⟨_, _, _, _, _, _, rfl, .inr ⟨⟨_, _, rfl⟩, ?_⟩⟩
    intro hs' ds' f
    obtain ⟨rfl, rfl⟩ := hfm.uniq f
    exact hsm
end Go.Proofs.YtfkdaelfehibcaaDoor.Be
