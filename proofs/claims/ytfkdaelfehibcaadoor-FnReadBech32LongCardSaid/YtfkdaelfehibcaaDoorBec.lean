/- Texts of bech32: places of bytes, digits of a text, by the package. -/
import Derived.Test.YtfkdaelfehibcaaDoorBeb
import Derived.Test.YtfkdaelfehibcaaDoorSx
import Derived.Lib.Bytealg
import Derived.Test.YtfkdaelfehibcaaDoorTybb
set_option linter.unusedSimpArgs false
set_option linter.unusedVariables false
namespace Go.Proofs.YtfkdaelfehibcaaDoor.Be
open Go Go.Se Go.Proofs Go.Proofs.YtfkdaelfehibcaaDoor.Tybb

theorem plc_byte (l : List UInt8) (b : Int) (h : 0 ≤ b ∧ b ≤ 255) : plc (l.map fun x => (x.toNat : Int)) b = Lib.indexByte l b.toNat.toUInt8 := by
  induction l with
  | nil => rfl
  | cons x r ih =>
    rw [List.map_cons, plc, Lib.indexByte, ih]
    have e : ((x.toNat : Int) = b) ↔ (x == b.toNat.toUInt8) = true := by
      have e3 : b.toNat.toUInt8.toNat = b.toNat := by
        show (UInt8.ofNat b.toNat).toNat = _
        rw [UInt8.toNat_ofNat']
        omega
      rw [beq_iff_eq, ← UInt8.toNat_inj, e3]
      omega
    have hg := Lib.indexByte_ge r b.toNat.toUInt8
    by_cases hx : (x.toNat : Int) = b
    · rw [if_pos hx, if_pos (e.1 hx)]
    · rw [if_neg hx, if_neg (fun h => hx (e.2 h))]
      by_cases h1 : Lib.indexByte r b.toNat.toUInt8 < 0
      · have h2 : Lib.indexByte r b.toNat.toUInt8 = -1 := by omega
        rw [if_pos h1, h2]
        rfl
      · have h2 : ¬ (Lib.indexByte r b.toNat.toUInt8 == -1) = true := fun h3 => by have := eq_of_beq h3; omega
        rw [if_neg h1, if_neg h2]

theorem sb_bytes {b : ByteArray} {xs : List Int} (h : SB b xs) : xs = b.data.toList.map fun x => (x.toNat : Int) := by
  have : SB b (b.data.toList.map fun x => (x.toNat : Int)) := by
    unfold SB byteCells ints
    rw [List.map_map]
    rfl
  exact h.inj this

set_option maxRecDepth 100000 in
theorem ixI {P : Program} (hP : P = Tryd.prog) (R : RO) (x : ByteArray) (xs : List Int) (hx : SB x xs) (b : Int) (hb : 0 ≤ b ∧ b ≤ 255) :
    RetP P 23 [.string x, .int .u8 b] R fun _ r => ∃ p, r = .int .i64 p ∧ p = plc xs b := by
  subst hP
  refine retP_vc (fz := []) Tryd.func23 rfl (by decide) rfl ok23 ?_
  intro P bin cmp cnv neg com bnot beq ofN toN at_ sub_ scmp cat sget ssz ssub elem fld_ hP hA
  conv => cbv
  refine callP_in (fz := [1000 + 33]) hP hA Tryd.func30 rfl (by decide) rfl ok30 (by simp [labL, lab]) ?_
  conv => cbv
  obtain ⟨q, hq⟩ : ∃ q, q = plc xs b := ⟨_, rfl⟩
  refine gen_extern (e := Extern.BytealgIndexByte.indexByte) (.v (.int .i64 q)) rfl rfl rfl (by rw [hP]; exact Tryd.func33) (by kernel_rfl) (by kernel_rfl) (by kernel_rfl) (by kernel_rfl) (fun ρ w _ => by
    show (Extern.BytealgIndexByte.indexByte #[.string x, .int .u8 b]).run P w = _
    rw [Lib.run_indexByteString, hq, sb_bytes hx, plc_byte _ _ hb]
    rfl) trivial ?_
  conv => cbv
  intro ρ R'' _ _ _
  exact ⟨_, rfl, hq⟩

theorem lst_bd (b : Int) (l : List Int) : -1 ≤ lst b l ∧ lst b l < (l.length : Int) := by
  induction l with
  | nil => exact ⟨Int.le_refl (-1), (by decide : (-1 : Int) < 0)⟩
  | cons x r ih =>
    rw [lst, List.length_cons]
    split
    · omega
    · split <;> omega

theorem lst_snoc (b d : Int) (l : List Int) : lst b (l ++ [d]) = if d = b then (l.length : Int) else lst b l := by
  induction l with
  | nil => rw [List.nil_append, lst, lst]; rfl
  | cons x r ih =>
    rw [List.cons_append, lst, ih, lst, List.length_cons]
    have := lst_bd b r
    by_cases h : d = b
    · rw [if_pos h, if_pos (by omega), if_pos h]
      omega
    · rw [if_neg h, if_neg h]

set_option maxRecDepth 100000 in
set_option maxHeartbeats 2000000 in
theorem lstI {P : Program} (hP : P = Tryd.prog) (R : RO) (x : ByteArray) (xs : List Int) (hx : SB x xs) (hl : xs.length ≤ 100000) (b : Int) :
    RetP P 16 [.string x, .int .u8 b] R fun _ r => ∃ p, r = .int .i64 p ∧ p = lst b xs := by
  subst hP
  have hsz := hx.size
  refine retP_vc (fz := []) Tryd.func16 rfl (by decide) rfl ok16 ?_
  intro P bin cmp cnv neg com bnot beq ofN toN at_ sub_ scmp cat sget ssz ssub elem fld_ hP hA
  conv => cbv
  refine callP_in (fz := []) hP hA Tryd.func22 rfl (by decide) rfl ok22 (by simp [labL, lab]) ?_
  conv => cbv
  have oz : ofN (ssz x) = (xs.length : Int) := by rw [ofN_ hA, ssz_ hA, hsz]
  have e0 : bin .sub .i64 (ofN (ssz x)) 1 = (xs.length : Int) - 1 := by rw [oz, sub_i64 hA (by omega)]
  refine ⟨Li, fun y => ⟨[(0, .v (.string x)), (1, .v (.int .u8 b)), (5, .v (.int .i64 y.i))], R, [], 0, []⟩,
    fun k y => ∃ m : Nat, y.i = (m : Int) - 1 ∧ m ≤ xs.length ∧ k = m ∧ lst b xs = lst b (xs.take m),
    ⟨xs.length, ⟨bin .sub .i64 (ofN (ssz x)) 1⟩, ⟨⟨rfl, rfl, rfl, trivial⟩, rfl, trivial, rfl, .refl _⟩, xs.length, e0, Nat.le_refl _, rfl, by rw [List.take_length]⟩, ?_⟩
  rintro k ⟨i⟩ ⟨m, hi, hm, hk, hp⟩
  simp only at hi
  conv => cbv
  cases m with
  | zero =>
    refine br_f (by rw [cmp_geq hA]; simp; omega) ?_
    conv => cbv
    intro ρ R'' _ _ _
    exact ⟨_, rfl, by rw [hp]; rfl⟩
  | succ j =>
    refine br_t (by rw [cmp_geq hA]; simp; omega) ?_
    conv => cbv
    obtain ⟨d, hd⟩ : ∃ d, xs[j]? = some d := ⟨_, List.getElem?_eq_getElem (by omega)⟩
    have hix : (0 : Int) ≤ i ∧ i < (x.size : Int) := by rw [hsz]; omega
    have hget : sget x i = d := sb_get hA hx j (by omega) hd
    have hi2 : bin .sub .i64 i 1 = (j : Int) - 1 := by rw [hi, sub_i64 hA (by omega)]; omega
    rw [take_snoc hd, lst_snoc, List.length_take, Nat.min_eq_left (by omega)] at hp
    refine ⟨hix, ?_⟩
    by_cases he : d = b
    · refine br_t (by rw [hget, cmp_eql hA, he]; simp) ?_
      conv => cbv
      intro ρ R'' _ _ _
      exact ⟨_, rfl, by rw [hp, if_pos he]; omega⟩
    refine br_f (by rw [hget, cmp_eql hA]; exact beq_false_of_ne he) ?_
    conv => cbv
    rw [if_neg he] at hp
    exact ⟨j, ⟨bin .sub .i64 i 1⟩, by omega, ⟨⟨rfl, rfl, rfl, trivial⟩, rfl, trivial, rfl, .refl _⟩, j, hi2, by omega, rfl, hp⟩

theorem cset_sb : SB ⟨#[113, 112, 122, 114, 121, 57, 120, 56, 103, 102, 50, 116, 118, 100, 119, 48, 115, 51, 106, 110, 53, 52, 107, 104, 99, 101, 54, 109, 117, 97, 55, 108]⟩ cset := rfl

/-- The numbers that digits are. -/
def dgs (l : List Int) : List Int := l.map (plc cset)

structure Lt where
  i : Int
  a : Option Addr
  n : Nat
  c : Nat
  zs : List Value
  rs : List Row

set_option maxRecDepth 100000 in
set_option maxHeartbeats 2000000 in
theorem toBytesI {P : Program} (hP : P = Tryd.prog) (R : RO) (x : ByteArray) (xs : List Int) (hx : SB x xs) (hl : xs.length ≤ 100000) (hr : ∀ c ∈ xs, 0 ≤ c ∧ c ≤ 255) :
    RetP P 17 [.string x] R fun R' r => ∃ a n c er, r = .tuple #[.slice a n c, er] ∧
      ((er = .nilIface ∧ (∀ d ∈ xs, 0 ≤ plc cset d) ∧ RI R' .u8 a n (dgs xs) ∧ n ≤ c ∧ (n ≠ 0 → a.isSome = true)) ∨ ((∃ T v, er = .iface T v) ∧ ∃ d ∈ xs, plc cset d < 0)) := by
  subst hP
  have hsz := hx.size
  refine retP_vc (fz := []) Tryd.func17 rfl (by decide) rfl ok17 ?_
  intro P bin cmp cnv neg com bnot beq ofN toN at_ sub_ scmp cat sget ssz ssub elem fld_ hP hA
  conv => cbv
  have oz : ofN (ssz x) = (xs.length : Int) := by rw [ofN_ hA, ssz_ hA, hsz]
  refine ⟨by decide, by omega, by omega, by omega, ?_⟩
  intro a0 n0 c0 z0 hn0 hc0 hz0
  have hn0 : n0 = 0 := by omega
  rw [hn0] at hz0
  simp only [List.replicate_zero, List.flatten_nil] at hz0
  conv => cbv
  refine ⟨Lt, fun y => ⟨[(0, .v (.string x)), (4, .v (.slice y.a y.n y.c)), (5, .v (.int .i64 y.i))], R, [], 0, y.rs⟩,
    fun k y => ∃ j : Nat, y.i = j ∧ j ≤ xs.length ∧ k = xs.length - j ∧ Base1 y.rs [] y.a y.n y.c 5 1 y.zs ∧ y.zs = ints .u8 (dgs (xs.take j)) ∧ y.n = j ∧ (y.n ≠ 0 → y.a.isSome = true) ∧ ∀ d ∈ xs.take j, 0 ≤ plc cset d,
    ⟨xs.length, ⟨0, some a0, n0, c0, z0, _⟩, ⟨⟨rfl, rfl, rfl, trivial⟩, rfl, trivial, rfl, .refl _⟩, 0, rfl, Nat.zero_le _, rfl, Base1.row, hz0, hn0, fun _ => rfl, fun d hd => by simp at hd⟩, ?_⟩
  rintro k ⟨i, a1, n1, c1, zs, rs⟩ ⟨j, hi, hj, hk, hb, hz, hn1, hs1, hnn⟩
  simp only at hi hb hz hn1 hs1
  conv => cbv
  by_cases hlt : j < xs.length
  case neg =>
    refine br_f (by rw [oz, cmp_lss hA]; simp; omega) ?_
    rw [List.take_of_length_le (by omega)] at hz hnn
    conv => cbv
    intro ρ R'' hle _ hpr
    refine ⟨a1, n1, c1, _, rfl, .inl ⟨rfl, hnn, ?_⟩⟩
    have hwf : ∀ y ∈ dgs xs, (Lit.int .u8 y).wf = true := fun y hy => by
      obtain ⟨w, hw, rfl⟩ := List.mem_map.1 hy
      have h1 := plc_bd cset w
      have h2 := hnn w hw
      have h3 : (cset.length : Int) = 32 := rfl
      exact wfb (by omega)
    rcases hb with ⟨h1, h2, h3, h4, h5⟩ | rfl
    · have h9 : xs = [] := List.eq_nil_of_length_eq_zero (by omega)
      subst h9
      exact ⟨⟨h2, fun i h6 h7 => absurd h7 (by omega), fun y hy => absurd hy (by simp [dgs])⟩, by omega, hs1⟩
    · exact ⟨(hpr _ (List.mem_cons_self ..)).ri (by show n1 = _; rw [hn1, dgs, List.length_map]; omega) hs1 rfl hz hwf, (hpr _ (List.mem_cons_self ..)).cap_ (by show (1 : Nat) ≠ 4096; decide) hs1, hs1⟩
  refine br_t (by rw [oz, cmp_lss hA]; simp; omega) ?_
  conv => cbv
  obtain ⟨d, hd⟩ : ∃ d, xs[j]? = some d := ⟨_, List.getElem?_eq_getElem hlt⟩
  have hdb := hr d (List.mem_of_getElem? hd)
  have hix : (0 : Int) ≤ i ∧ i < (x.size : Int) := by rw [hsz]; omega
  have hget : sget x i = d := sb_get hA hx j hi hd
  have hi2 : bin .add .i64 i 1 = ((j + 1 : Nat) : Int) := by rw [hi, add_i64 hA (by omega)]; rfl
  refine ⟨hix, ?_⟩
  simp (maxSteps := 10000000) only [hget]
  refine (ixI hP R _ _ cset_sb d hdb).callQ rfl ?_
  rintro _ ⟨p, rfl, hp⟩
  have hpb := plc_bd cset d
  have h32 : (cset.length : Int) = 32 := rfl
  conv => cbv
  by_cases hp0 : p < 0
  · refine br_t (by rw [cmp_lss hA]; exact decide_eq_true hp0) ?_
    conv => cbv
    refine ⟨[0, 1, 2, 3, 4, 5, 6], [], mix hP, by kernel_rfl, ?_⟩
    conv => cbv
    refine ⟨hix, ?_⟩
    conv => cbv
    intro ρ R'' hle _ hpr
    exact ⟨none, 0, 0, _, rfl, .inr ⟨⟨_, _, rfl⟩, d, List.mem_of_getElem? hd, by omega⟩⟩
  refine br_f (by rw [cmp_lss hA]; exact decide_eq_false hp0) ?_
  conv => cbv
  have ep : cnv .u8 p = p := cnv_u8 hA (by omega)
  refine ⟨n1, zs, _, _, _, 1, [.int .u8 (cnv .u8 p)], hb.base, .refl _, .own _ _ 1 1 _ _ rfl rfl rfl (by simp [Value.oneCell']), by omega, by omega, ?_⟩
  intro a2 n2 c2 z2 hn2 hz2 hs2
  conv => cbv
  have hzz : z2 = ints .u8 (dgs (xs.take (j + 1))) := by
    rw [hz2, hz, take_snoc hd, ep, hp]
    simp [ints, dgs]
  have hnn2 : ∀ e ∈ xs.take (j + 1), 0 ≤ plc cset e := by
    intro e he
    rw [take_snoc hd] at he
    rcases List.mem_append.1 he with h | h
    · exact hnn e h
    · rw [List.mem_singleton.1 h]; omega
  exact ⟨xs.length - (j + 1), ⟨bin .add .i64 i 1, a2, n2, c2, z2, _⟩, by omega, ⟨⟨rfl, rfl, rfl, trivial⟩, rfl, trivial, rfl, .refl _⟩, j + 1, hi2, hlt, rfl, Base1.row, hzz, by show n2 = j + 1; omega, hs2, hnn2⟩
end Go.Proofs.YtfkdaelfehibcaaDoor.Be
