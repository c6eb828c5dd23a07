/- Base 58: bytes are written and read again. -/
import Derived.Test.YtepfbdfbfimefaaDoorBfh
import Derived.Test.YtepfbdfbfimefaaDoorBfi
import Derived.Test.YtepfbdfbfimefaaDoorSl
import Derived.Test.YtepfbdfbfimefaaDoorProg
import Derived.KernelRfl
-- merged
/- The types that some functions name, as the evaluator wants them. Printed by a program of my own (seatgen.py). -/
namespace Go.Proofs.YtepfbdfbfimefaaDoor.Tyej
open Go Go.Se Go.Proofs

/-- int -/
def y3 : Ty := ⟨.int .i64, 1, false, .int .i64 0, 8⟩
theorem ty3 : tyOf Tryd.prog 3 = some y3 := by kernel_rfl
/-- uint8 -/
def y5 : Ty := ⟨.int .u8, 1, false, .int .u8 0, 1⟩
theorem ty5 : tyOf Tryd.prog 5 = some y5 := by kernel_rfl
/-- string -/
def y9 : Ty := ⟨.str, 1, false, .string ByteArray.empty, 16⟩
theorem ty9 : tyOf Tryd.prog 9 = some y9 := by kernel_rfl
/-- []uint8 -/
def y22 : Ty := ⟨.slc 5, 1, false, .slice none 0 0, 24⟩
theorem ty22 : tyOf Tryd.prog 22 = some y22 := by kernel_rfl

/-- function 3: pub-mintmark/laws.FnBase58 -/
def tys3 : Nat → Option Ty := fun t => find [(22, y22), (5, y5), (3, y3), (9, y9)] t
theorem ok3 : TysOk Tryd.prog tys3 := tysOk_of ⟨ty22, ty5, ty3, ty9, trivial⟩

/-- function 5: pub-mintmark/impl.Base58 -/
def tys5 : Nat → Option Ty := fun t => find [] t
theorem ok5 : TysOk Tryd.prog tys5 := tysOk_of trivial

/-- function 7: pub-mintmark/laws.same -/
def tys7 : Nat → Option Ty := fun t => find [(22, y22), (5, y5), (3, y3)] t
theorem ok7 : TysOk Tryd.prog tys7 := tysOk_of ⟨ty22, ty5, ty3, trivial⟩

/-- function 8: pub-mintmark/impl.Unbase58 -/
def tys8 : Nat → Option Ty := fun t => find [] t
theorem ok8 : TysOk Tryd.prog tys8 := tysOk_of trivial

/-- function 15: pub-mintmark/impl.copied -/
def tys15 : Nat → Option Ty := fun t => find [(22, y22), (5, y5)] t
theorem ok15 : TysOk Tryd.prog tys15 := tysOk_of ⟨ty22, ty5, trivial⟩
end Go.Proofs.YtepfbdfbfimefaaDoor.Tyej
set_option linter.unusedSimpArgs false
set_option linter.unusedVariables false
universe u
namespace Go.Proofs.YtepfbdfbfimefaaDoor.Bf
open Go Go.Se Go.Proofs Go.Proofs.YtepfbdfbfimefaaDoor.Co Go.Proofs.YtepfbdfbfimefaaDoor.Ht Go.Proofs.YtepfbdfbfimefaaDoor.Tyej

set_option maxRecDepth 100000 in
theorem copiedL {P : Program} (hP : P = Tryd.prog) (R : RO) (a : Option Addr) (n cap : Nat) (xs : List Int) (h : RI R .u8 a n xs) (hn : n ≤ 1000000000000) :
    RetP P 15 [.slice a n cap] R fun R' v => ∃ a' n' c', v = .slice a' n' c' ∧ n' = n ∧ RI R' .u8 a' n' xs ∧ n' ≤ c' := by
  subst hP
  refine retP_vc (fz := []) Tryd.func15 rfl (by decide) rfl ok15 ?_
  intro P bin cmp cnv neg com bnot beq ofN toN at_ sub_ scmp cat sget ssz ssub elem fld_ hP hA
  conv => cbv
  refine ⟨0, [], _, _, _, n, ints .u8 xs, .own 0 0 _ [] rfl rfl rfl rfl (by decide), .refl _, h.src, by omega, by omega, ?_⟩
  intro a' n' c' zs hn' hz hs
  conv => cbv
  intro ρ R'' hle _ hpr
  exact ⟨a', n', c', rfl, by omega, (hpr _ (List.mem_cons_self ..)).ri (by show n' = _; rw [← h.len]; omega) hs rfl hz h.wf, (hpr _ (List.mem_cons_self ..)).cap_ (by show (1 : Nat) ≠ 4096; decide) hs⟩

set_option maxRecDepth 100000 in
theorem sameL {P : Program} (hP : P = Tryd.prog) (R : RO) (a b : Option Addr) (n m cap c2 : Nat) (xs ys : List Int) (h : RI R .u8 a n xs) (h2 : RI R .u8 b m ys) (hn : n ≤ 1000000000000) (hm : m ≤ 1000000000000) :
    RetP P 7 [.slice a n cap, .slice b m c2] R fun _ v => ∃ r, v = .bool r ∧ (r = true ↔ xs = ys) := by
  subst hP
  have hl := h.len
  have hl2 := h2.len
  refine retP_vc (fz := []) Tryd.func7 rfl (by decide) rfl ok7 ?_
  intro P bin cmp cnv neg com bnot beq ofN toN at_ sub_ scmp cat sget ssz ssub elem fld_ hP hA
  conv => cbv
  have o := ofN_ hA n
  have o2 := ofN_ hA m
  by_cases h0 : n = m
  case neg =>
    refine br_t (by rw [o, o2, cmp_neq hA]; simp; omega) ?_
    conv => cbv
    intro ρ R'' _ _ _
    exact ⟨_, rfl, by simp; intro hx; rw [hx] at hl; omega⟩
  refine br_f (by rw [o, o2, cmp_neq hA]; simp; omega) ?_
  conv => cbv
  refine ⟨Int, fun x => ⟨[(5, .v (.int .i64 x)), (0, .v (.slice a n cap)), (1, .v (.slice b m c2))], R, [], 0, []⟩,
    fun k x => ∃ i : Nat, x = i ∧ i ≤ n ∧ k = n - i ∧ xs.take i = ys.take i, ⟨n, 0, ⟨⟨rfl, rfl, rfl, trivial⟩, rfl, trivial, rfl, .refl _⟩, 0, rfl, by omega, rfl, rfl⟩, ?_⟩
  rintro k x ⟨i, hx, hi, hk, ht⟩
  conv => cbv
  by_cases hlt : i < n
  · refine br_t (by rw [o, cmp_lss hA]; simp; omega) ?_
    conv => cbv
    refine ⟨[0, 1, 2, 3, 4, 5, 6, 7, 8], [], mix hP, by kernel_rfl, ?_⟩
    conv => cbv
    refine ix_u8 hA h i hx (by omega) ?_
    refine ld_u8 hA h (by omega) (by omega) ?_
    intro c hc c0 c1
    conv => cbv
    refine ix_u8 hA h2 i hx (by omega) ?_
    refine ld_u8 hA h2 (by omega) (by omega) ?_
    intro d hd d0 d1
    conv => cbv
    have hi1 : i < xs.length := by omega
    have hi2 : i < ys.length := by omega
    rw [hx, Int.toNat_natCast, List.getD_eq_getElem?_getD, List.getElem?_eq_getElem hi1] at hc
    rw [hx, Int.toNat_natCast, List.getD_eq_getElem?_getD, List.getElem?_eq_getElem hi2] at hd
    simp only [Option.getD_some] at hc hd
    by_cases he : c = d
    · refine br_f (by rw [cmp_neq hA, he]; simp) ?_
      conv => cbv
      refine ⟨n - (i + 1), x + 1, by omega, ⟨⟨?_, rfl, rfl, trivial⟩, rfl, trivial, rfl, .refl _⟩, i + 1, by show x + 1 = ((i + 1 : Nat) : Int); omega, by omega, rfl, ?_⟩
      · rw [add_i64 hA (by omega)]; rfl
      · rw [List.take_add_one, List.take_add_one, ht, List.getElem?_eq_getElem hi1, List.getElem?_eq_getElem hi2, ← hc, ← hd, he]
    · refine br_t (by rw [cmp_neq hA]; simpa using he) ?_
      conv => cbv
      intro ρ R'' _ _ _
      refine ⟨_, rfl, by simp; intro hxy; subst hxy; exact he (by rw [hc, hd])⟩
  · refine br_f (by rw [o, cmp_lss hA]; simp; omega) ?_
    conv => cbv
    intro ρ R'' _ _ _
    refine ⟨_, rfl, ?_⟩
    have : i = n := by omega
    subst this
    rw [List.take_of_length_le (by omega), List.take_of_length_le (by omega)] at ht
    simp [ht]



set_option maxRecDepth 100000 in
set_option maxHeartbeats 2000000 in
theorem law {P : Program} (hP : P = Tryd.prog) (R : RO) (hG : RI R .u8 (some ⟨1, 0, none⟩) 256 t58) (a : Option Addr) (n c : Nat) (xs : List Int) (h : RI R .u8 a n xs) (hm : n ≤ 9223372036854775807) (hc : n ≤ c) :
    RetP P 3 [.slice a n c] R fun _ v => v = .bool true := by
  subst hP
  have hl := h.len
  have hby := By.of_wf h.wf
  refine retP_vc (fz := []) Tryd.func3 rfl (by decide) rfl ok3 ?_
  intro P bin cmp cnv neg com bnot beq ofN toN at_ sub_ scmp cat sget ssz ssub elem fld_ hP hA
  conv => cbv
  have o := ofN_ hA n
  by_cases h1 : 2147483647 < n
  · refine br_t (by rw [o, cmp_gtr hA]; simp; omega) ?_
    conv => cbv
    intro ρ R'' _ _ _
    rfl
  refine br_f (by rw [o, cmp_gtr hA]; simp; omega) ?_
  conv => cbv
  by_cases h2 : 300 < n
  · refine br_t (by rw [o, cmp_gtr hA]; simp; omega) ?_
    conv => cbv
    intro ρ R'' _ _ _
    rfl
  refine br_f (by rw [o, cmp_gtr hA]; simp; omega) ?_
  conv => cbv
  refine callP_in (fz := []) hP hA Tryd.func5 rfl (by decide) rfl ok5 (by simp [labL, lab]) ?_
  conv => cbv
  refine (encodeI hP R a n c xs h hc (by omega)).callQ rfl ?_
  rintro _ ⟨s1, rfl, hs1⟩
  conv => cbv
  refine (base58S hP R a n c xs h hc (by omega)).callQ rfl ?_
  rintro _ ⟨s2, rfl, hs2⟩
  conv => cbv
  have hq : scmp .eql s1 s2 = true := by rw [scmp_eql hA hs1 hs2]; exact decide_eq_true rfl
  simp (maxSteps := 10000000) only [hq]
  conv => cbv
  refine callP_in (fz := []) hP hA Tryd.func8 rfl (by decide) rfl ok8 (by simp [labL, lab]) ?_
  conv => cbv
  have hz := congrArg List.length (zs0_be hby)
  rw [List.length_append, List.length_replicate] at hz
  have hel : (enc xs).length ≤ 1000 := by
    rw [enc, List.length_append, List.length_replicate, List.length_reverse, List.length_map]
    have := dsL_256 (be_lt hby)
    omega
  have heb : ∀ x ∈ enc xs, 0 ≤ x ∧ x ≤ 255 := by
    intro x hx
    have hg := enc_good xs x hx
    have h3 := ch_bd _ (dv_lt hg)
    rw [ch_dv hg] at h3
    omega
  refine (decodeI hP R hG s1 (enc xs) hs1 heb hel).callP rfl ?_
  rintro R1 _ hR1 ⟨a1, n1, c1, zs, rfl, hc1, hr1, hgood, -⟩
  rw [hgood (enc_good xs), dec_enc hby] at hr1
  conv => cbv
  have hn1 : n1 ≤ 1000 := by rw [hr1.len, ← hl]; omega
  refine (copiedL hP R1 a1 n1 c1 xs hr1 (by omega)).callP rfl ?_
  rintro R2 _ hR2 ⟨a2, n2, c2, rfl, hn2, hr2, hc2⟩
  conv => cbv
  refine (sameL hP R2 a2 a n2 n c2 c xs xs hr2 (h.le (RO.le_trans hR1 hR2)) (by omega) (by omega)).callQ rfl ?_
  rintro _ ⟨r, rfl, hr⟩
  obtain rfl := hr.2 rfl
  conv => cbv
  intro ρ R'' _ _ _
  rfl
end Go.Proofs.YtepfbdfbfimefaaDoor.Bf
