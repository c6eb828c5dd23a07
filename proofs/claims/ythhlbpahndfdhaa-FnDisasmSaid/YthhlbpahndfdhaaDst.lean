/- The reference's hex digits, and names of opcodes. -/
import Derived.Test.YthhlbpahndfdhaaDss
import Derived.Test.YthhlbpahndfdhaaSx
import Derived.Test.YthhlbpahndfdhaaTydb
set_option linter.unusedSimpArgs false
set_option linter.unusedVariables false
namespace Go.Proofs.Ythhlbpahndfdhaa.Ds
open Go Go.Se Go.Proofs Go.Proofs.Ythhlbpahndfdhaa.Tydb

def hxT : List Int := [48, 49, 50, 51, 52, 53, 54, 55, 56, 57, 97, 98, 99, 100, 101, 102]

theorem hxT_sb : SB ⟨#[48, 49, 50, 51, 52, 53, 54, 55, 56, 57, 97, 98, 99, 100, 101, 102]⟩ hxT := rfl

theorem hxT_get {k : Nat} (h : k < 16) : hxT[k]? = some (hx k) := by
  have : ∀ k < 16, hxT[k]? = some (hx k) := by decide
  exact this k h

set_option maxRecDepth 100000 in
theorem names_len : namesL.length ≤ 100000 := Nat.le_of_ble_eq_true (by kernel_rfl)

set_option maxRecDepth 100000 in
theorem names_wf : ∀ c ∈ namesL, 0 ≤ c ∧ c ≤ 255 := fun c hc => by
  have h : (namesL.all fun c => decide (0 ≤ c ∧ c ≤ 255)) = true := by kernel_rfl
  simpa using List.all_eq_true.1 h c hc



set_option maxRecDepth 100000 in
set_option maxHeartbeats 2000000 in
theorem nameC {P : Program} (hP : P = Try.prog) (R : RO) (op : Int) (h0 : 0 ≤ op) (h1 : op ≤ 255) (h : op = 80 ∨ 97 ≤ op) :
    RetP P 12 [.int .i64 op] R fun _ r => ∃ s, r = .string s ∧ SB s (nmL op) := by
  subst hP
  have hnm := name_nm h0 h1 h
  have hlen := nm_len h0 h1
  refine retP_vc (fz := []) Try.func12 rfl (by decide) rfl ok12 ?_
  intro P bin cmp cnv neg com bnot beq ofN toN at_ sub_ scmp cat sget ssz ssub elem fld_ hP hA
  conv => cbv
  refine br_f (by rw [cmp_eql hA]; exact beq_false_of_ne (by omega)) ?_
  conv => cbv
  refine br_f (by rw [cmp_lss hA]; exact decide_eq_false (by omega)) ?_
  conv => cbv
  refine br_f (by rw [cmp_leq hA]; exact decide_eq_false (by omega)) ?_
  conv => cbv
  refine br_f (by rw [cmp_eql hA]; exact beq_false_of_ne (by omega)) ?_
  conv => cbv
  by_cases e80 : op = 80
  · refine br_t (by rw [cmp_eql hA, e80]; rfl) ?_
    subst e80
    conv => cbv
    intro ρ R'' _ _ _
    exact ⟨_, rfl, by rw [← hnm]; rfl⟩
  refine br_f (by rw [cmp_eql hA]; exact beq_false_of_ne e80) ?_
  conv => cbv
  refine br_f (by rw [cmp_leq hA]; exact decide_eq_false (by omega)) ?_
  conv => cbv
  have hk80 : op.toNat ≠ 80 := by omega
  by_cases e186 : op ≤ 186
  · refine br_t (by rw [cmp_leq hA]; exact decide_eq_true e186) ?_
    conv => cbv
    have hsb : bin .sub .i64 op 97 = ((op.toNat - 97 : Nat) : Int) := by rw [sub_i64 hA (by omega)]; omega
    have hnS : nameS op.toNat = opS ++ partL namesL [] (op.toNat - 97) := by rw [nameS, if_neg hk80, if_pos (by omega)]
    refine (partS hP R _ namesL ?hsb names_len names_wf (op.toNat - 97) _ hsb (by omega)).callQ rfl ?_
    case hsb => rfl
    rintro _ ⟨s, rfl, hs⟩
    conv => cbv
    have hz : 3 + s.size ≤ 9223372036854775807 := by
      have h2 := congrArg List.length (hnS.symm.trans hnm)
      rw [List.length_append] at h2
      rw [hs.size]
      omega
    refine ⟨hz, ?_⟩
    conv => cbv
    intro ρ R'' _ _ _
    exact ⟨_, rfl, by rw [← hnm, hnS]; exact sb_cat hA rfl hs⟩
  refine br_f (by rw [cmp_leq hA]; exact decide_eq_false e186) ?_
  conv => cbv
  have hk186 : ¬ op.toNat ≤ 186 := by omega
  by_cases eKK : op = 250
  · refine br_t (by rw [cmp_eql hA, eKK]; rfl) ?_
    subst eKK
    conv => cbv
    intro ρ R'' _ _ _
    exact ⟨_, rfl, by rw [← hnm]; rfl⟩
  refine br_f (by rw [cmp_eql hA]; exact beq_false_of_ne eKK) ?_
  conv => cbv
  have k250 : op.toNat ≠ 250 := by omega
  by_cases eKK : op = 251
  · refine br_t (by rw [cmp_eql hA, eKK]; rfl) ?_
    subst eKK
    conv => cbv
    intro ρ R'' _ _ _
    exact ⟨_, rfl, by rw [← hnm]; rfl⟩
  refine br_f (by rw [cmp_eql hA]; exact beq_false_of_ne eKK) ?_
  conv => cbv
  have k251 : op.toNat ≠ 251 := by omega
  by_cases eKK : op = 253
  · refine br_t (by rw [cmp_eql hA, eKK]; rfl) ?_
    subst eKK
    conv => cbv
    intro ρ R'' _ _ _
    exact ⟨_, rfl, by rw [← hnm]; rfl⟩
  refine br_f (by rw [cmp_eql hA]; exact beq_false_of_ne eKK) ?_
  conv => cbv
  have k253 : op.toNat ≠ 253 := by omega
  by_cases eKK : op = 254
  · refine br_t (by rw [cmp_eql hA, eKK]; rfl) ?_
    subst eKK
    conv => cbv
    intro ρ R'' _ _ _
    exact ⟨_, rfl, by rw [← hnm]; rfl⟩
  refine br_f (by rw [cmp_eql hA]; exact beq_false_of_ne eKK) ?_
  conv => cbv
  have k254 : op.toNat ≠ 254 := by omega
  by_cases eKK : op = 255
  · refine br_t (by rw [cmp_eql hA, eKK]; rfl) ?_
    subst eKK
    conv => cbv
    intro ρ R'' _ _ _
    exact ⟨_, rfl, by rw [← hnm]; rfl⟩
  refine br_f (by rw [cmp_eql hA]; exact beq_false_of_ne eKK) ?_
  conv => cbv
  have k255 : op.toNat ≠ 255 := by omega
  refine (decS hP R op.toNat op (by omega) (by omega)).callQ rfl ?_
  rintro _ ⟨s, rfl, hs⟩
  conv => cbv
  have hz : 10 + s.size ≤ 9223372036854775807 := by
    have := decL_len op.toNat
    rw [hs.size]
    omega
  refine ⟨hz, ?_⟩
  conv => cbv
  intro ρ R'' _ _ _
  have hnS : nameS op.toNat = unS ++ decL op.toNat := by rw [nameS, if_neg hk80, if_neg hk186, if_neg k250, if_neg k251, if_neg k253, if_neg k254, if_neg k255]
  exact ⟨_, rfl, by rw [← hnm, hnS]; exact sb_cat hA rfl hs⟩

structure Lh where
  i : Int
  a : Option Addr
  n : Nat
  c : Nat
  zs : List Value
  rs : List Row

set_option maxRecDepth 100000 in
set_option maxHeartbeats 2000000 in
theorem hexS {P : Program} (hP : P = Try.prog) (R : RO) (a : Option Addr) (n c : Nat) (xs : List Int) (h : RI R .u8 a n xs) (hn : n ≤ 100000) :
    RetP P 11 [.slice a n c] R fun _ r => ∃ s, r = .string s ∧ SB s (hexL xs) := by
  subst hP
  have hl := h.len
  refine retP_vc (fz := []) Try.func11 rfl (by decide) rfl ok11 ?_
  intro P bin cmp cnv neg com bnot beq ofN toN at_ sub_ scmp cat sget ssz ssub elem fld_ hP hA
  conv => cbv
  have o := ofN_ hA n
  refine ⟨Lh, fun x => ⟨[(4, .v (.int .i64 x.i)), (3, .v (.slice x.a x.n x.c)), (0, .v (.slice a n c))], R, [], 0, x.rs⟩,
    fun k x => ∃ j : Nat, x.i = j ∧ j ≤ n ∧ k = n - j ∧ Base1 x.rs [] x.a x.n x.c 5 1 x.zs ∧ x.zs = ints .u8 (hexL (xs.take j)) ∧ x.n = 2 * j ∧ (x.n ≠ 0 → x.a.isSome = true),
    ⟨n, ⟨0, none, 0, 0, [], []⟩, ⟨⟨rfl, rfl, rfl, trivial⟩, rfl, trivial, rfl, .refl _⟩, 0, rfl, Nat.zero_le _, rfl, Base1.nil, rfl, rfl, fun h => absurd rfl h⟩, ?_⟩
  rintro k ⟨i, a1, n1, c1, zs, rs⟩ ⟨j, hi, hj, hk, hb, hz, hn1, hs1⟩
  simp only at hi hb hz hn1 hs1
  conv => cbv
  by_cases hlt : j < n
  case neg =>
    refine br_f (by rw [o, cmp_lss hA]; simp; omega) ?_
    conv => cbv
    have hw : ∀ x ∈ hexL (xs.take j), (Lit.int .u8 x).wf = true := fun x hx => wfb (hexL_wf _ (fun y hy => by have := h.wf y (List.mem_of_mem_take hy); simp [Lit.wf, IntKind.min, IntKind.max, IntKind.bits, IntKind.signed] at this; omega) x hx)
    obtain ⟨bs, hbs⟩ := bytes_of_ints hw
    have hjn : j = n := by omega
    refine ⟨n1, zs, bs, hb.src hs1 (by rw [hz, ints_len, hexL_len, List.length_take]; omega) (by rw [hz]; exact ints_one _ _), by rw [hz]; exact hbs.symm, ?_⟩
    conv => cbv
    intro ρ R'' _ _ _
    refine ⟨_, rfl, ?_⟩
    rw [hjn, hl, List.take_length] at hbs
    exact hbs
  refine br_t (by rw [o, cmp_lss hA]; simp; omega) ?_
  conv => cbv
  refine ⟨[0, 1, 2, 3, 4, 5, 6, 7, 8, 9, 10, 11, 12, 13, 14, 15], [13, 14], mix hP, by kernel_rfl, ?_⟩
  conv => cbv
  obtain ⟨d, hd⟩ : ∃ d, xs[j]? = some d := ⟨_, List.getElem?_eq_getElem (by omega)⟩
  refine ix_u8 hA h j hi (by omega) ?_
  refine ld_u8 hA h (by omega) (by omega) ?_
  intro d1 hd1 d0 d255
  obtain rfl : d1 = d := by rw [hd1, hi, Int.toNat_natCast, List.getD_eq_getElem?_getD, hd]; rfl
  conv => cbv
  obtain ⟨D, hD⟩ : ∃ D : Nat, d1 = D := ⟨d1.toNat, by omega⟩
  have e1 : bin .shr .u8 d1 4 = ((D / 16 : Nat) : Int) := by rw [shr_u8 hA (by decide), hD]; show (D : Int) / 2 ^ 4 = _; omega
  have e2 : bin .and .u8 d1 15 = ((D % 16 : Nat) : Int) := by
    rw [hD]
    refine (and_u8 hA (y := 15) (by omega) (by decide)).trans ?_
    rw [show 15 = 2 ^ 4 - 1 by decide, Nat.and_two_pow_sub_one_eq_mod]
  have hD16 : D / 16 < 16 := by omega
  have hD16b : D % 16 < 16 := Nat.mod_lt _ (by decide)
  have b1 : (0 : Int) ≤ bin .shr .u8 d1 4 ∧ bin .shr .u8 d1 4 < 16 := by omega
  have b2 : (0 : Int) ≤ bin .and .u8 d1 15 ∧ bin .and .u8 d1 15 < 16 := by omega
  refine ⟨by decide, ?_⟩
  conv => cbv
  refine ⟨b1, ?_⟩
  conv => cbv
  refine ix_u8 hA h j hi (by omega) ?_
  refine ld_u8 hA h (by omega) (by omega) ?_
  intro d2 hd2 _ _
  obtain rfl : d2 = d1 := by rw [hd2, hd1]
  conv => cbv
  refine ⟨b2, ?_⟩
  conv => cbv
  obtain ⟨u1, hu1⟩ : ∃ u, u = sget ⟨#[48, 49, 50, 51, 52, 53, 54, 55, 56, 57, 97, 98, 99, 100, 101, 102]⟩ (bin .shr .u8 d2 4) := ⟨_, rfl⟩
  obtain ⟨u2, hu2⟩ : ∃ u, u = sget ⟨#[48, 49, 50, 51, 52, 53, 54, 55, 56, 57, 97, 98, 99, 100, 101, 102]⟩ (bin .and .u8 d2 15) := ⟨_, rfl⟩
  simp (maxSteps := 10000000) only [← hu1, ← hu2]
  have g1 : u1 = hx (D / 16) := by rw [hu1]; exact sb_get hA hxT_sb (D / 16) e1 (hxT_get hD16)
  have g2 : u2 = hx (D % 16) := by rw [hu2]; exact sb_get hA hxT_sb (D % 16) e2 (hxT_get hD16b)
  refine ⟨n1, zs, _, _, _, 2, [.int .u8 u1, .int .u8 u2], hb.base, .refl _, .own _ _ 2 2 _ _ rfl rfl rfl (by simp [Value.oneCell']), by omega, by omega, ?_⟩
  intro a2 n2 c2 z2 hn2 hz2 hs2
  conv => cbv
  have hxj : bin .add .i64 i 1 = ((j + 1 : Nat) : Int) := by rw [hi, add_i64 hA (by omega)]; rfl
  have htk : xs.take (j + 1) = xs.take j ++ [d2] := by rw [List.take_add_one, hd]; rfl
  have hzz : z2 = ints .u8 (hexL (xs.take (j + 1))) := by
    rw [hz2, hz, htk, hexL_snoc, hD, Int.toNat_natCast, g1, g2]
    simp [ints]
  have hn2' : n2 = 2 * (j + 1) := by omega
  exact ⟨n - (j + 1), ⟨bin .add .i64 i 1, a2, n2, c2, z2, _⟩, by omega, ⟨⟨rfl, rfl, rfl, trivial⟩, rfl, trivial, rfl, .refl _⟩, j + 1, hxj, hlt, rfl, Base1.row, hzz, hn2', hs2⟩
end Go.Proofs.Ythhlbpahndfdhaa.Ds
