/- The reference's numbers, digits and names. -/
import Derived.Test.YthhlbpahndfdhaaDsp
import Derived.Test.YthhlbpahndfdhaaTyda
set_option linter.unusedSimpArgs false
set_option linter.unusedVariables false
namespace Go.Proofs.Ythhlbpahndfdhaa.Ds
open Go Go.Se Go.Proofs Go.Proofs.Ythhlbpahndfdhaa.Tyda

theorem mix {P : Program} (hP : P = Try.prog) : P.follows .mixedOrders = true := by subst hP; rfl

theorem wfb {x : Int} (h : 0 ≤ x ∧ x ≤ 255) : (Lit.int .u8 x).wf = true := by
  simp [Lit.wf, IntKind.min, IntKind.max, IntKind.bits, IntKind.signed]
  omega

theorem decL_one {m : Nat} (h : m < 10) : decL m = [48 + (m : Int)] := by rw [decL, if_pos h]

theorem decL_step {m : Nat} (h : 10 ≤ m) (h2 : m < 1000) : decL m = decL (m / 10) ++ [48 + ((m % 10 : Nat) : Int)] := by
  rw [decL, if_neg (by omega)]
  by_cases h1 : m < 100
  · rw [if_pos h1, decL, if_pos (by omega)]
    rfl
  · rw [if_neg h1, decL, if_neg (by omega), if_pos (by omega), Nat.div_div_eq_div_mul]
    rfl

theorem decL_len (n : Nat) : (decL n).length ≤ 3 := by
  unfold decL
  split
  · exact Nat.le_of_ble_eq_true rfl
  · split <;> exact Nat.le_of_ble_eq_true rfl

theorem partL_ne {c : Int} (r acc : List Int) (n : Nat) (h : c ≠ 32) : partL (c :: r) acc n = partL r (acc ++ [c]) n := by
  rw [partL.eq_def]
  simp [h]

theorem partL_z (r acc : List Int) : partL (32 :: r) acc 0 = acc := rfl
theorem partL_s (r acc : List Int) (n : Nat) : partL (32 :: r) acc (n + 1) = partL r [] n := rfl

structure Ld where
  n : Int
  s : ByteArray

set_option maxRecDepth 100000 in
set_option maxHeartbeats 1000000 in
theorem decS {P : Program} (hP : P = Try.prog) (R : RO) (N : Nat) (ni : Int) (hni : ni = N) (hN : N < 1000) :
    RetP P 10 [.int .i64 ni] R fun _ r => ∃ s, r = .string s ∧ SB s (decL N) := by
  subst hP
  refine retP_vc (fz := []) Try.func10 rfl (by decide) rfl ok10 ?_
  intro P bin cmp cnv neg com bnot beq ofN toN at_ sub_ scmp cat sget ssz ssub elem fld_ hP hA
  conv => cbv
  refine ⟨Ld, fun x => ⟨[(0, .v (.int .i64 x.n)), (3, .v (.string x.s))], R, [], 0, []⟩, fun k x => ∃ (m : Nat) (sl : List Int), x.n = m ∧ m < 1000 ∧ k = m ∧ SB x.s sl ∧ decL m ++ sl = decL N,
    ⟨N, ⟨ni, ⟨#[]⟩⟩, ⟨⟨rfl, rfl, trivial⟩, rfl, trivial, rfl, .refl _⟩, N, [], hni, hN, rfl, rfl, List.append_nil _⟩, ?_⟩
  rintro k ⟨n1, s⟩ ⟨m, sl, hm, hm3, hk, hs, hdec⟩
  simp only at hm hs
  conv => cbv
  refine ⟨by decide, ?_⟩
  have hd : cnv .u8 (bin .add .i64 48 (bin .rem .i64 n1 10)) = 48 + ((m % 10 : Nat) : Int) := by
    rw [rem_i64 hA (by omega), hm, add_i64 hA (by omega), cnv_u8 hA (by omega)]
    omega
  obtain ⟨dv, hdv⟩ : ∃ d, d = cnv .u8 (bin .add .i64 48 (bin .rem .i64 n1 10)) := ⟨_, rfl⟩
  simp only [← hdv]
  rw [← hdv] at hd
  obtain ⟨bs, hbs⟩ := bytes_of_ints (xs := [dv]) (fun x hx => by rw [List.mem_singleton.1 hx]; exact wfb (by omega))
  have hsl : sl.length ≤ 3 := by
    have h1 := congrArg List.length hdec
    have h2 := decL_len N
    rw [List.length_append] at h1
    omega
  have hz : bs.size + s.size ≤ 9223372036854775807 := by
    rw [SB.size (xs := [dv]) hbs, hs.size]
    show 1 + sl.length ≤ _
    omega
  refine ⟨1, _, bs, .own _ _ _ _ _ _ rfl rfl rfl (by simp [Value.oneCell']), hbs.symm, ?_⟩
  conv => cbv
  refine ⟨hz, ?_⟩
  conv => cbv
  refine ⟨by decide, ?_⟩
  have hq : bin .quo .i64 n1 10 = ((m / 10 : Nat) : Int) := by rw [quo_i64 hA (by omega) (by omega) (by omega), hm]; omega
  have hsn : SB (cat bs s) ([dv] ++ sl) := sb_cat hA hbs hs
  by_cases h0 : m < 10
  · refine br_t (by rw [hq, cmp_eql hA, Nat.div_eq_of_lt h0]; rfl) ?_
    conv => cbv
    intro ρ R'' _ _ _
    refine ⟨_, rfl, ?_⟩
    rw [← hdec, decL_one h0]
    rw [hd, Nat.mod_eq_of_lt h0] at hsn
    exact hsn
  refine br_f (by rw [hq, cmp_eql hA]; exact beq_false_of_ne (by omega)) ?_
  conv => cbv
  have hdn : decL (m / 10) ++ ([dv] ++ sl) = decL N := by rw [← hdec, decL_step (by omega) hm3, hd, List.append_assoc]
  exact ⟨m / 10, ⟨bin .quo .i64 n1 10, cat bs s⟩, by omega, ⟨⟨rfl, rfl, trivial⟩, rfl, trivial, rfl, .refl _⟩, m / 10, [dv] ++ sl, hq, by omega, rfl, hsn, hdn⟩

structure Lp where
  n : Int
  f : Int
  i : Int

set_option maxRecDepth 100000 in
set_option maxHeartbeats 1000000 in
theorem partS {P : Program} (hP : P = Try.prog) (R : RO) (x : ByteArray) (ts : List Int) (hx : SB x ts) (hl : ts.length ≤ 100000) (hb : ∀ c ∈ ts, 0 ≤ c ∧ c ≤ 255) (N : Nat) (ni : Int) (hni : ni = N) (hN : N ≤ 100000) :
    RetP P 23 [.string x, .int .i64 ni] R fun _ r => ∃ s, r = .string s ∧ SB s (partL ts [] N) := by
  subst hP
  have hsz := hx.size
  refine retP_vc (fz := []) Try.func23 rfl (by decide) rfl ok23 ?_
  intro P bin cmp cnv neg com bnot beq ofN toN at_ sub_ scmp cat sget ssz ssub elem fld_ hP hA
  conv => cbv
  have oz : ofN (ssz x) = (ts.length : Int) := by rw [ofN_ hA, ssz_ hA, hsz]
  refine ⟨Lp, fun y => ⟨[(0, .v (.string x)), (1, .v (.int .i64 y.n)), (5, .v (.int .i64 y.f)), (6, .v (.int .i64 y.i))], R, [], 0, []⟩,
    fun k y => ∃ (m f i : Nat) (acc : List Int), y.n = m ∧ m ≤ 100000 ∧ y.f = f ∧ y.i = i ∧ f ≤ i ∧ i ≤ ts.length ∧ k = ts.length - i ∧ acc = (ts.drop f).take (i - f) ∧ partL (ts.drop i) acc m = partL ts [] N,
    ⟨ts.length, ⟨ni, 0, 0⟩, ⟨⟨rfl, rfl, rfl, rfl, trivial⟩, rfl, trivial, rfl, .refl _⟩, N, 0, 0, [], hni, hN, rfl, rfl, Nat.le_refl _, Nat.zero_le _, rfl, rfl, rfl⟩, ?_⟩
  rintro k ⟨n1, f1, i1⟩ ⟨m, f, i, acc, hn, hm, hf, hi, hfi, hil, hk, hacc, hpl⟩
  simp only at hn hf hi
  conv => cbv
  by_cases hlt : i < ts.length
  case neg =>
    refine br_f (by rw [oz, cmp_lss hA]; simp; omega) ?_
    conv => cbv
    intro ρ R'' _ _ _
    refine ⟨_, rfl, ?_⟩
    rw [← hpl, List.drop_of_length_le (by omega)]
    rfl
  refine br_t (by rw [oz, cmp_lss hA]; simp; omega) ?_
  conv => cbv
  obtain ⟨c, hc⟩ : ∃ c, ts[i]? = some c := ⟨_, List.getElem?_eq_getElem hlt⟩
  have hcb := hb c (List.mem_of_getElem? hc)
  have hdr : ts.drop i = c :: ts.drop (i + 1) := by
    obtain ⟨h1, h2⟩ := List.getElem?_eq_some_iff.1 hc
    rw [← h2, List.drop_eq_getElem_cons h1]
  rw [hdr] at hpl
  have hix : (0 : Int) ≤ i1 ∧ i1 < (x.size : Int) := by rw [hsz]; omega
  refine ⟨hix, ?_⟩
  have hget : sget x i1 = c := sb_get hA hx i hi hc
  have hi2 : bin .add .i64 i1 1 = ((i + 1 : Nat) : Int) := by rw [hi, add_i64 hA (by omega)]; rfl
  by_cases hc32 : c = 32
  case neg =>
    rw [partL_ne _ _ _ hc32] at hpl
    have hacc2 : acc ++ [c] = (ts.drop f).take (i + 1 - f) := by
      rw [show i + 1 - f = (i - f) + 1 by omega, List.take_add_one, ← hacc, List.getElem?_drop, show f + (i - f) = i by omega, hc]
      rfl
    refine br_t (by rw [hget, cmp_neq hA]; exact bne_iff_ne.2 hc32) ?_
    conv => cbv
    exact ⟨ts.length - (i + 1), ⟨n1, f1, bin .add .i64 i1 1⟩, by omega, ⟨⟨rfl, rfl, rfl, rfl, trivial⟩, rfl, trivial, rfl, .refl _⟩, m, f, i + 1, acc ++ [c], hn, hm, hf, hi2, by omega, by omega, rfl, hacc2, hpl⟩
  rw [hc32] at hpl
  refine br_f (by rw [hget, cmp_neq hA, hc32]; rfl) ?_
  conv => cbv
  cases m with
  | zero =>
    refine br_t (by rw [hn, cmp_eql hA]; rfl) ?_
    conv => cbv
    refine ⟨f, i, hf.symm, hi.symm, hfi, by rw [hsz]; omega, ?_⟩
    intro y hy
    conv => cbv
    intro ρ R'' _ _ _
    refine ⟨_, rfl, ?_⟩
    rw [partL_z] at hpl
    rw [← hpl, hacc, hy]
    exact hx.ext f i
  | succ m =>
    refine br_f (by rw [hn, cmp_eql hA]; exact beq_false_of_ne (by omega)) ?_
    conv => cbv
    rw [partL_s] at hpl
    have hn2 : bin .sub .i64 n1 1 = (m : Int) := by rw [hn, sub_i64 hA (by omega)]; omega
    exact ⟨ts.length - (i + 1), ⟨bin .sub .i64 n1 1, bin .add .i64 i1 1, bin .add .i64 i1 1⟩, by omega, ⟨⟨rfl, rfl, rfl, rfl, trivial⟩, rfl, trivial, rfl, .refl _⟩, m, i + 1, i + 1, [], hn2, by omega, hi2, hi2, Nat.le_refl _, by omega, rfl, by rw [Nat.sub_self]; rfl, hpl⟩

theorem smallS {P : Program} (hP : P = Try.prog) (R : RO) (op : Int) (h0 : 0 ≤ op) (h1 : op ≤ 255) :
    RetP P 9 [.int .i64 op] R fun _ r => ∃ (n : Int) (b : Bool), r = .tuple #[.int .i64 n, .bool b] ∧ b = decide (op = 0 ∨ (81 ≤ op ∧ op ≤ 96)) ∧ (op = 0 → n = 0) ∧ (81 ≤ op ∧ op ≤ 96 → n = op - 80) := by
  subst hP
  refine retP_vc (fz := []) Try.func9 rfl (by decide) rfl ok9 ?_
  intro P bin cmp cnv neg com bnot beq ofN toN at_ sub_ scmp cat sget ssz ssub elem fld_ hP hA
  conv => cbv
  by_cases hz : op = 0
  · refine br_t (by rw [hz, cmp_eql hA]; rfl) ?_
    conv => cbv
    intro ρ R'' _ _ _
    exact ⟨_, _, rfl, (decide_eq_true (Or.inl hz)).symm, fun _ => rfl, fun h => by omega⟩
  refine br_f (by rw [cmp_eql hA]; exact beq_false_of_ne hz) ?_
  conv => cbv
  by_cases ha : 81 ≤ op
  case neg =>
    have c1 : cmp .geq op 81 = false := by rw [cmp_geq hA]; exact decide_eq_false ha
    simp only [c1]
    conv => cbv
    intro ρ R'' _ _ _
    exact ⟨_, _, rfl, (decide_eq_false (by omega)).symm, fun h => absurd h hz, fun h => by omega⟩
  have c1 : cmp .geq op 81 = true := by rw [cmp_geq hA]; exact decide_eq_true ha
  simp only [c1]
  conv => cbv
  by_cases hb : op ≤ 96
  case neg =>
    refine br_f (by rw [cmp_leq hA]; exact decide_eq_false hb) ?_
    conv => cbv
    intro ρ R'' _ _ _
    exact ⟨_, _, rfl, (decide_eq_false (by omega)).symm, fun h => absurd h hz, fun h => by omega⟩
  refine br_t (by rw [cmp_leq hA]; exact decide_eq_true hb) ?_
  conv => cbv
  intro ρ R'' _ _ _
  exact ⟨_, _, rfl, (decide_eq_true (by omega)).symm, fun h => absurd h hz, fun h => by rw [sub_i64 hA (by omega), add_i64 hA (by omega)]; omega⟩
end Go.Proofs.Ythhlbpahndfdhaa.Ds
