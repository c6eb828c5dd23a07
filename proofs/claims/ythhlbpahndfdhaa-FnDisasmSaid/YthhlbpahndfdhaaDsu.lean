/- The package's hex digits, the replaced names, a builder's writes. -/
import Derived.Test.YthhlbpahndfdhaaDst
import Derived.Test.YthhlbpahndfdhaaTydc
set_option linter.unusedSimpArgs false
set_option linter.unusedVariables false
namespace Go.Proofs.Ythhlbpahndfdhaa.Ds
open Go Go.Se Go.Proofs Go.Proofs.Ythhlbpahndfdhaa.Tydc

def okRepl : Option (List Int) → SV → Prop := fun _ _ => True


theorem flat_one (n : Nat) : (List.replicate n [Value.int .u8 0]).flatten = ints .u8 (List.replicate n 0) := by
  induction n with
  | zero => rfl
  | succ n ih => rw [List.replicate_succ, List.flatten_cons, ih, List.replicate_succ]; rfl

theorem put1 {A T : List Value} {u : Value} {p : Nat} (h : A.length = p) : (A ++ T).take p ++ [u] ++ (A ++ T).drop (p + 1) = (A ++ [u]) ++ T.drop 1 := by
  subst h
  rw [List.take_left, ← List.drop_drop, List.drop_left]

structure Le where
  i : Int
  d : Int
  zs : List Value

set_option maxRecDepth 100000 in
set_option maxHeartbeats 2000000 in
theorem hexP {P : Program} (hP : P = Try.prog) (R : RO) (a : Option Addr) (n c : Nat) (xs : List Int) (h : RI R .u8 a n xs) (hc : n ≤ c) (hn : n ≤ 100000) :
    RetP P 30 [.slice a n c] R fun _ r => ∃ s, r = .string s ∧ SB s (hexL xs) := by
  subst hP
  have hl := h.len
  refine retP_vc (fz := []) Try.func30 rfl (by decide) rfl ok30 ?_
  intro P bin cmp cnv neg com bnot beq ofN toN at_ sub_ scmp cat sget ssz ssub elem fld_ hP hA
  conv => cbv
  have o := ofN_ hA n
  refine callP_in (fz := []) hP hA Try.func32 rfl (by decide) rfl ok32 (by simp [labL, lab]) ?_
  conv => cbv
  have hm : bin .mul .i64 (ofN n) 2 = ((2 * n : Nat) : Int) := by rw [o, mul_i64 hA (by omega)]; omega
  refine ⟨by omega, by omega, by omega, by omega, ?_⟩
  intro a1 n1 c1 z1 hn1 hc1 hz1
  conv => cbv
  have hn2 : n1 = 2 * n := by omega
  refine callP_in (fz := []) hP hA Try.func33 rfl (by decide) rfl ok33 (by simp [labL, lab]) ?_
  conv => cbv
  have hz1b : z1 = ints .u8 (List.replicate n1 0) := by rw [hz1, flat_one]
  refine ⟨Le, fun x => ⟨[(10, .v (.int .i64 x.i)), (9, .v (.int .i64 (ofN n))), (8, .v (.slice a n c)), (5, .v (.int .i64 x.d)), (0, .v (.slice (some a1) n1 c1)), (1, .v (.slice a n c))], R, [], 0, [⟨some a1, n1, c1, 5, 1, x.zs⟩]⟩,
    fun k x => ∃ j : Nat, x.i = j ∧ x.d = (2 * j : Nat) ∧ j ≤ n ∧ k = n - j ∧ x.zs = ints .u8 (hexL (xs.take j)) ++ z1.drop (2 * j),
    ⟨n, ⟨0, 0, z1⟩, ⟨⟨rfl, rfl, rfl, rfl, rfl, rfl, trivial⟩, rfl, trivial, rfl, .refl _⟩, 0, rfl, rfl, Nat.zero_le _, rfl, rfl⟩, ?_⟩
  rintro k ⟨i, dd, zs⟩ ⟨j, hi, hdd, hj, hk, hz⟩
  simp only at hi hdd hz
  have hzl : zs.length = n1 := by rw [hz, List.length_append, ints_len, hexL_len, List.length_take, List.length_drop, hz1b, ints_len, List.length_replicate]; omega
  conv => cbv
  by_cases hlt : j < n
  case neg =>
    refine br_f (by rw [o, cmp_lss hA]; simp; omega) ?_
    conv => cbv
    have hjn : j = n := by omega
    have hw : ∀ x ∈ hexL xs, (Lit.int .u8 x).wf = true := fun x hx => wfb (hexL_wf _ (fun y hy => by have := h.wf y hy; simp [Lit.wf, IntKind.min, IntKind.max, IntKind.bits, IntKind.signed] at this; omega) x hx)
    obtain ⟨bs, hbs⟩ := bytes_of_ints hw
    have hzf : zs = ints .u8 (hexL xs) := by
      rw [hz, hjn, hl, List.take_length, List.drop_of_length_le (by rw [hz1b, ints_len, List.length_replicate]; omega), List.append_nil]
    refine ⟨n1, zs, bs, src_row (r := ⟨some a1, n1, c1, 5, 1, zs⟩) (List.mem_cons_self ..) (fun _ => rfl) (by show zs.length = _; rw [hzl, Nat.mul_one]) (by show ∀ v ∈ zs, _; rw [hzf]; exact ints_one _ _), by rw [hzf]; exact hbs.symm, ?_⟩
    conv => cbv
    intro ρ R'' _ _ _
    exact ⟨_, rfl, hbs⟩
  refine br_t (by rw [o, cmp_lss hA]; simp; omega) ?_
  conv => cbv
  obtain ⟨d, hd⟩ : ∃ d, xs[j]? = some d := ⟨_, List.getElem?_eq_getElem (by omega)⟩
  refine ix_u8 hA h j hi (by omega) ?_
  refine ld_u8 hA h (by omega) (by omega) ?_
  intro d1 hd1 d0 d255
  obtain rfl : d1 = d := by rw [hd1, hi, Int.toNat_natCast, List.getD_eq_getElem?_getD, hd]; rfl
  conv => cbv
  obtain ⟨D, hD⟩ : ∃ D : Nat, d1 = D := ⟨d1.toNat, by omega⟩
  have e1 : bin .shr .u8 d1 4 = ((D / 16 : Nat) : Int) := by rw [shr_u8 hA (by decide), hD]; show (D : Int) / 2 ^ 4 = _; omega
  have e2 : bin .and .u8 d1 15 = ((D % 16 : Nat) : Int) := by
    rw [hD]
    refine (and_u8 hA (y := 15) (by omega) (by decide)).trans ?_
    rw [show 15 = 2 ^ 4 - 1 by decide, Nat.and_two_pow_sub_one_eq_mod]
  have hD16 : D / 16 < 16 := by omega
  have hD16b : D % 16 < 16 := Nat.mod_lt _ (by decide)
  have b1 : (0 : Int) ≤ bin .shr .u8 d1 4 ∧ bin .shr .u8 d1 4 < 16 := by omega
  have b2 : (0 : Int) ≤ bin .and .u8 d1 15 ∧ bin .and .u8 d1 15 < 16 := by omega
  refine ⟨by decide, ?_⟩
  conv => cbv
  refine ⟨b1, ?_⟩
  conv => cbv
  have ix1 : (0 : Int) ≤ dd ∧ dd < ofN n1 := by rw [ofN_ hA]; omega
  have ad1 : elem (some a1) dd 1 = a1.add (2 * j) := by rw [elem_is hA, hdd]; show a1.add (((2 * j : Nat) : Int).toNat * 1) = _; rw [Int.toNat_natCast, Nat.mul_one]
  refine ⟨ix1.1, ix1.2, rfl, ?_⟩
  conv => cbv
  obtain ⟨u1, hu1⟩ : ∃ u, u = sget ⟨#[48, 49, 50, 51, 52, 53, 54, 55, 56, 57, 97, 98, 99, 100, 101, 102]⟩ (bin .shr .u8 d1 4) := ⟨_, rfl⟩
  simp (maxSteps := 10000000) only [← hu1]
  have g1 : u1 = hx (D / 16) := by rw [hu1]; exact sb_get hA hxT_sb (D / 16) e1 (hxT_get hD16)
  refine ⟨0, _, _, 2 * j, rfl, rfl, ad1, by show 2 * j + 1 ≤ zs.length; omega, ?_⟩
  intro y1 hy1
  conv => cbv
  have hAl : (ints .u8 (hexL (xs.take j))).length = 2 * j := by rw [ints_len, hexL_len, List.length_take]; omega
  have hy1' : y1 = (ints .u8 (hexL (xs.take j)) ++ [.int .u8 u1]) ++ z1.drop (2 * j + 1) := by
    have h9 : y1 = zs.take (2 * j) ++ [.int .u8 u1] ++ zs.drop (2 * j + 1) := hy1
    rw [h9, hz, put1 hAl, List.drop_drop]
  have hy1l : y1.length = n1 := by rw [hy1', List.length_append, List.length_append, hAl, List.length_drop, hz1b, ints_len, List.length_replicate]; show 2 * j + 1 + (n1 - (2 * j + 1)) = n1; omega
  clear hy1
  refine ⟨b2, ?_⟩
  conv => cbv
  have hd2 : bin .add .i64 dd 1 = ((2 * j + 1 : Nat) : Int) := by rw [hdd, add_i64 hA (by omega)]; rfl
  have ix2 : (0 : Int) ≤ bin .add .i64 dd 1 ∧ bin .add .i64 dd 1 < ofN n1 := by rw [ofN_ hA]; omega
  have ad2 : elem (some a1) (bin .add .i64 dd 1) 1 = a1.add (2 * j + 1) := by rw [elem_is hA, hd2]; show a1.add (((2 * j + 1 : Nat) : Int).toNat * 1) = _; rw [Int.toNat_natCast, Nat.mul_one]
  refine ⟨ix2.1, ix2.2, rfl, ?_⟩
  conv => cbv
  obtain ⟨u2, hu2⟩ : ∃ u, u = sget ⟨#[48, 49, 50, 51, 52, 53, 54, 55, 56, 57, 97, 98, 99, 100, 101, 102]⟩ (bin .and .u8 d1 15) := ⟨_, rfl⟩
  simp (maxSteps := 10000000) only [← hu2]
  have g2 : u2 = hx (D % 16) := by rw [hu2]; exact sb_get hA hxT_sb (D % 16) e2 (hxT_get hD16b)
  refine ⟨0, _, _, 2 * j + 1, rfl, rfl, ad2, by show 2 * j + 1 + 1 ≤ y1.length; omega, ?_⟩
  intro y2 hy2
  conv => cbv
  have hxj : bin .add .i64 i 1 = ((j + 1 : Nat) : Int) := by rw [hi, add_i64 hA (by omega)]; rfl
  have hxd : bin .add .i64 dd 2 = ((2 * (j + 1) : Nat) : Int) := by rw [hdd, add_i64 hA (by omega)]; omega
  have htk : xs.take (j + 1) = xs.take j ++ [d1] := by rw [List.take_add_one, hd]; rfl
  have hzz : y2 = ints .u8 (hexL (xs.take (j + 1))) ++ z1.drop (2 * (j + 1)) := by
    have h9 : y2 = y1.take (2 * j + 1) ++ [.int .u8 u2] ++ y1.drop (2 * j + 1 + 1) := hy2
    rw [h9, hy1', put1 (by rw [List.length_append, hAl]; rfl), List.drop_drop, htk, hexL_snoc, hD, Int.toNat_natCast, g1, g2]
    simp [ints]
    rfl
  exact ⟨n - (j + 1), ⟨bin .add .i64 i 1, bin .add .i64 dd 2, y2⟩, by omega, ⟨⟨rfl, rfl, rfl, rfl, rfl, rfl, trivial⟩, rfl, trivial, rfl, .refl _⟩, j + 1, hxj, hxd, hlt, rfl, hzz⟩

set_option maxRecDepth 100000 in
set_option maxHeartbeats 2000000 in
theorem replP {P : Program} (hP : P = Try.prog) (R : RO) (x : ByteArray) (xs : List Int) (hx : SB x xs) :
    RetP P 29 [.string x] R fun _ r => ∃ (s : ByteArray) (b : Bool), r = .tuple #[.string s, .bool b] ∧ ((b = true ∧ ∃ ys, repl xs = some ys ∧ SB s ys) ∨ (b = false ∧ repl xs = none)) := by
  subst hP
  refine retP_vc (fz := []) Try.func29 rfl (by decide) rfl ok29 ?_
  intro P bin cmp cnv neg com bnot beq ofN toN at_ sub_ scmp cat sget ssz ssub elem fld_ hP hA
  conv => cbv
  obtain ⟨rp, hrp⟩ : ∃ rp, rp = repl xs := ⟨_, rfl⟩
  rw [← hrp]
  unfold repl at hrp
  by_cases e : xs = [79, 80, 95, 49, 78, 69, 71, 65, 84, 69]
  · refine br_t (by rw [scmp_eql hA hx (b := ⟨#[79, 80, 95, 49, 78, 69, 71, 65, 84, 69]⟩) (ys := [79, 80, 95, 49, 78, 69, 71, 65, 84, 69]) rfl]; exact decide_eq_true e) ?_
    conv => cbv
    intro ρ R'' _ _ _
    rw [if_pos e] at hrp
    exact ⟨_, _, rfl, .inl ⟨rfl, _, hrp, rfl⟩⟩
  refine br_f (by rw [scmp_eql hA hx (b := ⟨#[79, 80, 95, 49, 78, 69, 71, 65, 84, 69]⟩) (ys := [79, 80, 95, 49, 78, 69, 71, 65, 84, 69]) rfl]; exact decide_eq_false e) ?_
  rw [if_neg e] at hrp
  clear e
  conv => cbv
  by_cases e : xs = [79, 80, 95, 48]
  · refine br_t (by rw [scmp_eql hA hx (b := ⟨#[79, 80, 95, 48]⟩) (ys := [79, 80, 95, 48]) rfl]; exact decide_eq_true e) ?_
    conv => cbv
    intro ρ R'' _ _ _
    rw [if_pos e] at hrp
    exact ⟨_, _, rfl, .inl ⟨rfl, _, hrp, rfl⟩⟩
  refine br_f (by rw [scmp_eql hA hx (b := ⟨#[79, 80, 95, 48]⟩) (ys := [79, 80, 95, 48]) rfl]; exact decide_eq_false e) ?_
  rw [if_neg e] at hrp
  clear e
  conv => cbv
  by_cases e : xs = [79, 80, 95, 49]
  · refine br_t (by rw [scmp_eql hA hx (b := ⟨#[79, 80, 95, 49]⟩) (ys := [79, 80, 95, 49]) rfl]; exact decide_eq_true e) ?_
    conv => cbv
    intro ρ R'' _ _ _
    rw [if_pos e] at hrp
    exact ⟨_, _, rfl, .inl ⟨rfl, _, hrp, rfl⟩⟩
  refine br_f (by rw [scmp_eql hA hx (b := ⟨#[79, 80, 95, 49]⟩) (ys := [79, 80, 95, 49]) rfl]; exact decide_eq_false e) ?_
  rw [if_neg e] at hrp
  clear e
  conv => cbv
  by_cases e : xs = [79, 80, 95, 50]
  · refine br_t (by rw [scmp_eql hA hx (b := ⟨#[79, 80, 95, 50]⟩) (ys := [79, 80, 95, 50]) rfl]; exact decide_eq_true e) ?_
    conv => cbv
    intro ρ R'' _ _ _
    rw [if_pos e] at hrp
    exact ⟨_, _, rfl, .inl ⟨rfl, _, hrp, rfl⟩⟩
  refine br_f (by rw [scmp_eql hA hx (b := ⟨#[79, 80, 95, 50]⟩) (ys := [79, 80, 95, 50]) rfl]; exact decide_eq_false e) ?_
  rw [if_neg e] at hrp
  clear e
  conv => cbv
  by_cases e : xs = [79, 80, 95, 51]
  · refine br_t (by rw [scmp_eql hA hx (b := ⟨#[79, 80, 95, 51]⟩) (ys := [79, 80, 95, 51]) rfl]; exact decide_eq_true e) ?_
    conv => cbv
    intro ρ R'' _ _ _
    rw [if_pos e] at hrp
    exact ⟨_, _, rfl, .inl ⟨rfl, _, hrp, rfl⟩⟩
  refine br_f (by rw [scmp_eql hA hx (b := ⟨#[79, 80, 95, 51]⟩) (ys := [79, 80, 95, 51]) rfl]; exact decide_eq_false e) ?_
  rw [if_neg e] at hrp
  clear e
  conv => cbv
  by_cases e : xs = [79, 80, 95, 52]
  · refine br_t (by rw [scmp_eql hA hx (b := ⟨#[79, 80, 95, 52]⟩) (ys := [79, 80, 95, 52]) rfl]; exact decide_eq_true e) ?_
    conv => cbv
    intro ρ R'' _ _ _
    rw [if_pos e] at hrp
    exact ⟨_, _, rfl, .inl ⟨rfl, _, hrp, rfl⟩⟩
  refine br_f (by rw [scmp_eql hA hx (b := ⟨#[79, 80, 95, 52]⟩) (ys := [79, 80, 95, 52]) rfl]; exact decide_eq_false e) ?_
  rw [if_neg e] at hrp
  clear e
  conv => cbv
  by_cases e : xs = [79, 80, 95, 53]
  · refine br_t (by rw [scmp_eql hA hx (b := ⟨#[79, 80, 95, 53]⟩) (ys := [79, 80, 95, 53]) rfl]; exact decide_eq_true e) ?_
    conv => cbv
    intro ρ R'' _ _ _
    rw [if_pos e] at hrp
    exact ⟨_, _, rfl, .inl ⟨rfl, _, hrp, rfl⟩⟩
  refine br_f (by rw [scmp_eql hA hx (b := ⟨#[79, 80, 95, 53]⟩) (ys := [79, 80, 95, 53]) rfl]; exact decide_eq_false e) ?_
  rw [if_neg e] at hrp
  clear e
  conv => cbv
  by_cases e : xs = [79, 80, 95, 54]
  · refine br_t (by rw [scmp_eql hA hx (b := ⟨#[79, 80, 95, 54]⟩) (ys := [79, 80, 95, 54]) rfl]; exact decide_eq_true e) ?_
    conv => cbv
    intro ρ R'' _ _ _
    rw [if_pos e] at hrp
    exact ⟨_, _, rfl, .inl ⟨rfl, _, hrp, rfl⟩⟩
  refine br_f (by rw [scmp_eql hA hx (b := ⟨#[79, 80, 95, 54]⟩) (ys := [79, 80, 95, 54]) rfl]; exact decide_eq_false e) ?_
  rw [if_neg e] at hrp
  clear e
  conv => cbv
  by_cases e : xs = [79, 80, 95, 55]
  · refine br_t (by rw [scmp_eql hA hx (b := ⟨#[79, 80, 95, 55]⟩) (ys := [79, 80, 95, 55]) rfl]; exact decide_eq_true e) ?_
    conv => cbv
    intro ρ R'' _ _ _
    rw [if_pos e] at hrp
    exact ⟨_, _, rfl, .inl ⟨rfl, _, hrp, rfl⟩⟩
  refine br_f (by rw [scmp_eql hA hx (b := ⟨#[79, 80, 95, 55]⟩) (ys := [79, 80, 95, 55]) rfl]; exact decide_eq_false e) ?_
  rw [if_neg e] at hrp
  clear e
  conv => cbv
  by_cases e : xs = [79, 80, 95, 56]
  · refine br_t (by rw [scmp_eql hA hx (b := ⟨#[79, 80, 95, 56]⟩) (ys := [79, 80, 95, 56]) rfl]; exact decide_eq_true e) ?_
    conv => cbv
    intro ρ R'' _ _ _
    rw [if_pos e] at hrp
    exact ⟨_, _, rfl, .inl ⟨rfl, _, hrp, rfl⟩⟩
  refine br_f (by rw [scmp_eql hA hx (b := ⟨#[79, 80, 95, 56]⟩) (ys := [79, 80, 95, 56]) rfl]; exact decide_eq_false e) ?_
  rw [if_neg e] at hrp
  clear e
  conv => cbv
  by_cases e : xs = [79, 80, 95, 57]
  · refine br_t (by rw [scmp_eql hA hx (b := ⟨#[79, 80, 95, 57]⟩) (ys := [79, 80, 95, 57]) rfl]; exact decide_eq_true e) ?_
    conv => cbv
    intro ρ R'' _ _ _
    rw [if_pos e] at hrp
    exact ⟨_, _, rfl, .inl ⟨rfl, _, hrp, rfl⟩⟩
  refine br_f (by rw [scmp_eql hA hx (b := ⟨#[79, 80, 95, 57]⟩) (ys := [79, 80, 95, 57]) rfl]; exact decide_eq_false e) ?_
  rw [if_neg e] at hrp
  clear e
  conv => cbv
  by_cases e : xs = [79, 80, 95, 49, 48]
  · refine br_t (by rw [scmp_eql hA hx (b := ⟨#[79, 80, 95, 49, 48]⟩) (ys := [79, 80, 95, 49, 48]) rfl]; exact decide_eq_true e) ?_
    conv => cbv
    intro ρ R'' _ _ _
    rw [if_pos e] at hrp
    exact ⟨_, _, rfl, .inl ⟨rfl, _, hrp, rfl⟩⟩
  refine br_f (by rw [scmp_eql hA hx (b := ⟨#[79, 80, 95, 49, 48]⟩) (ys := [79, 80, 95, 49, 48]) rfl]; exact decide_eq_false e) ?_
  rw [if_neg e] at hrp
  clear e
  conv => cbv
  by_cases e : xs = [79, 80, 95, 49, 49]
  · refine br_t (by rw [scmp_eql hA hx (b := ⟨#[79, 80, 95, 49, 49]⟩) (ys := [79, 80, 95, 49, 49]) rfl]; exact decide_eq_true e) ?_
    conv => cbv
    intro ρ R'' _ _ _
    rw [if_pos e] at hrp
    exact ⟨_, _, rfl, .inl ⟨rfl, _, hrp, rfl⟩⟩
  refine br_f (by rw [scmp_eql hA hx (b := ⟨#[79, 80, 95, 49, 49]⟩) (ys := [79, 80, 95, 49, 49]) rfl]; exact decide_eq_false e) ?_
  rw [if_neg e] at hrp
  clear e
  conv => cbv
  by_cases e : xs = [79, 80, 95, 49, 50]
  · refine br_t (by rw [scmp_eql hA hx (b := ⟨#[79, 80, 95, 49, 50]⟩) (ys := [79, 80, 95, 49, 50]) rfl]; exact decide_eq_true e) ?_
    conv => cbv
    intro ρ R'' _ _ _
    rw [if_pos e] at hrp
    exact ⟨_, _, rfl, .inl ⟨rfl, _, hrp, rfl⟩⟩
  refine br_f (by rw [scmp_eql hA hx (b := ⟨#[79, 80, 95, 49, 50]⟩) (ys := [79, 80, 95, 49, 50]) rfl]; exact decide_eq_false e) ?_
  rw [if_neg e] at hrp
  clear e
  conv => cbv
  by_cases e : xs = [79, 80, 95, 49, 51]
  · refine br_t (by rw [scmp_eql hA hx (b := ⟨#[79, 80, 95, 49, 51]⟩) (ys := [79, 80, 95, 49, 51]) rfl]; exact decide_eq_true e) ?_
    conv => cbv
    intro ρ R'' _ _ _
    rw [if_pos e] at hrp
    exact ⟨_, _, rfl, .inl ⟨rfl, _, hrp, rfl⟩⟩
  refine br_f (by rw [scmp_eql hA hx (b := ⟨#[79, 80, 95, 49, 51]⟩) (ys := [79, 80, 95, 49, 51]) rfl]; exact decide_eq_false e) ?_
  rw [if_neg e] at hrp
  clear e
  conv => cbv
  by_cases e : xs = [79, 80, 95, 49, 52]
  · refine br_t (by rw [scmp_eql hA hx (b := ⟨#[79, 80, 95, 49, 52]⟩) (ys := [79, 80, 95, 49, 52]) rfl]; exact decide_eq_true e) ?_
    conv => cbv
    intro ρ R'' _ _ _
    rw [if_pos e] at hrp
    exact ⟨_, _, rfl, .inl ⟨rfl, _, hrp, rfl⟩⟩
  refine br_f (by rw [scmp_eql hA hx (b := ⟨#[79, 80, 95, 49, 52]⟩) (ys := [79, 80, 95, 49, 52]) rfl]; exact decide_eq_false e) ?_
  rw [if_neg e] at hrp
  clear e
  conv => cbv
  by_cases e : xs = [79, 80, 95, 49, 53]
  · refine br_t (by rw [scmp_eql hA hx (b := ⟨#[79, 80, 95, 49, 53]⟩) (ys := [79, 80, 95, 49, 53]) rfl]; exact decide_eq_true e) ?_
    conv => cbv
    intro ρ R'' _ _ _
    rw [if_pos e] at hrp
    exact ⟨_, _, rfl, .inl ⟨rfl, _, hrp, rfl⟩⟩
  refine br_f (by rw [scmp_eql hA hx (b := ⟨#[79, 80, 95, 49, 53]⟩) (ys := [79, 80, 95, 49, 53]) rfl]; exact decide_eq_false e) ?_
  rw [if_neg e] at hrp
  clear e
  conv => cbv
  by_cases e : xs = [79, 80, 95, 49, 54]
  · refine br_t (by rw [scmp_eql hA hx (b := ⟨#[79, 80, 95, 49, 54]⟩) (ys := [79, 80, 95, 49, 54]) rfl]; exact decide_eq_true e) ?_
    conv => cbv
    intro ρ R'' _ _ _
    rw [if_pos e] at hrp
    exact ⟨_, _, rfl, .inl ⟨rfl, _, hrp, rfl⟩⟩
  refine br_f (by rw [scmp_eql hA hx (b := ⟨#[79, 80, 95, 49, 54]⟩) (ys := [79, 80, 95, 49, 54]) rfl]; exact decide_eq_false e) ?_
  rw [if_neg e] at hrp
  clear e
  conv => cbv
  intro ρ R'' _ _ _
  exact ⟨_, _, rfl, .inr ⟨rfl, hrp⟩⟩
end Go.Proofs.Ythhlbpahndfdhaa.Ds
