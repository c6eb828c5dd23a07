/- Texts of bech32: the reference's expanded part and sum. -/
import Derived.Test.YtfkdaelfehibcaaDoorBed
import Derived.Test.YtfkdaelfehibcaaDoorSz
import Derived.Test.YtfkdaelfehibcaaDoorTybd
set_option linter.unusedSimpArgs false
set_option linter.unusedVariables false
namespace Go.Se
open Go

theorem CallP.forget {P : Program} {f : Nat} {args : List SV} {R : RO} {hp : List (Nat × HB)} {nx : Nat} {rs : List Row} {K0 K : RO → List (Nat × HB) → Nat → List Row → SV → Prop} (h : CallP P f args R hp nx rs K0)
    (hk : ∀ R' hp' nx' rs' r, K0 R' hp' nx' rs' r → ∃ hp2 nx2, nx ≤ nx2 ∧ nx2 ≤ nx' ∧ (∀ l b, find hp2 l = some b → find hp' l = some b ∧ l < nx2 ∧ labL nx2 b.cs) ∧ lab nx2 r ∧ K R' hp2 nx2 rs' r) : CallP P f args R hp nx rs K :=
  ⟨h.fn, fun ρ w hr => (h.go ρ w hr).mono fun e w' ⟨R', hp', nx', rs', ρ', r, q1, q2, q3, q4, q5, q6, q7, qr, q8, q9, q10⟩ => by
    obtain ⟨hp2, nx2, k1, k2, k3, k4, k5⟩ := hk R' hp' nx' rs' r q10
    exact ⟨R', hp2, nx2, rs', ρ', r, q1, k1, fun l h1 h2 => q3 l h1 (by omega), q4, q5,
      ⟨fun l b hb => q6.blk l b (k3 l b hb).1, fun l l' h1 h2 => q6.inj l l' (by omega) (by omega), fun l hl => q6.lt l (by omega), q6.ro, fun l b hb => q6.dis l b (k3 l b hb).1, fun l b hb => (k3 l b hb).2, q6.row,
        fun q hq g hg => ⟨(q6.rdis q hq g hg).1, fun l b hb => (q6.rdis q hq g hg).2 l b (k3 l b hb).1⟩, q6.rpair⟩, q7, qr, q8, k4, k5⟩⟩

/-- An index of a slice of the call's own. -/
theorem raw_se_ix {C : Cx} {s : St} {o : Oper} {T e l off n c i : Nat} {x y : Operand} {K : SV → Prop} {kd : IntKind} {ii : Int} {j : TypeInfo} (ho : o.op = .indexAddr T x y) (hx : s.ev x = some (.se l off n c)) (hy : s.ev y = some (.v (.int kd ii))) (hii : ii = i)
    (hi : i < n) (hT : C.P.underlying T = some (.slice e)) (hj : C.P.info? e = some j) (hl : l < s.nx) {q : Nat} (hq : q = off + i * j.size) (hK : K (.p l q)) : RawH C s o K := by
  subst hq
  refine ⟨.p l (off + i * j.size), hl, hK, fun ρ w hr ev hev => ?_⟩
  subst hii
  have h1 : (0 : Int) ≤ (i : Int) := Int.natCast_nonneg i
  have h2 : (i : Int) < (n : Int) := by omega
  unfold execOp
  rw [ho]
  simp only
  refine run_v ?_
  rw [hev x _ hx, hev y _ hy]
  simp only [Instr.indexAt, bind, val, asIntOf, pure, Sem.bind]
  rw [run_bind_pure (run_und hT)]
  simp only [Sem.bind]
  rw [run_bind_pure (run_und hT)]
  rw [if_pos ⟨h1, h2⟩, run_bind_pure (run_size hj)]
  simp [Sem.run, cell_add]
end Go.Se
namespace Go.Proofs.YtfkdaelfehibcaaDoor.Be
open Go Go.Se Go.Proofs Go.Proofs.YtfkdaelfehibcaaDoor.Tybd

/-- The readable part as numbers. -/
def xpI (h : List Int) : List Int := (h.map fun x => x / 32) ++ 0 :: h.map fun x => x % 32

theorem xpI_nat {h : List Int} (hr : ∀ c ∈ h, 0 ≤ c ∧ c ≤ 255) : (xpI h).map byF = xpd h := by
  rw [xpI, xpd, List.map_append, List.map_cons, List.map_map, List.map_map]
  congr 1
  · refine List.map_congr_left fun d hd => ?_
    have := hr d hd
    show (d / 32).toNat = d.toNat / 32
    omega
  · congr 1
    refine List.map_congr_left fun d hd => ?_
    have := hr d hd
    show (d % 32).toNat = d.toNat % 32
    omega

theorem xpI_len (h : List Int) : (xpI h).length = 2 * h.length + 1 := by
  rw [xpI, List.length_append, List.length_cons, List.length_map, List.length_map]
  omega

theorem xpI_wf {h : List Int} (hr : ∀ c ∈ h, 0 ≤ c ∧ c ≤ 255) : ∀ x ∈ xpI h, 0 ≤ x ∧ x ≤ 255 := by
  intro x hx
  rcases List.mem_append.1 hx with hx | hx
  · obtain ⟨d, hd, rfl⟩ := List.mem_map.1 hx
    have := hr d hd
    omega
  · rcases List.mem_cons.1 hx with rfl | hx
    · omega
    · obtain ⟨d, hd, rfl⟩ := List.mem_map.1 hx
      have := hr d hd
      omega


def q32 (x : Int) : Int := x / 32
def r32 (x : Int) : Int := x % 32

set_option maxRecDepth 100000 in
set_option maxHeartbeats 2000000 in
theorem expandS {P : Program} (hP : P = Tryd.prog) (R : RO) (x : ByteArray) (xs : List Int) (hx : SB x xs) (hl : xs.length ≤ 100000) (hr : ∀ c ∈ xs, 0 ≤ c ∧ c ≤ 255) :
    RowP P 11 [.string x] R 5 1 fun n zs => zs = ints .u8 (xpI xs) ∧ n = (xpI xs).length := by
  subst hP
  have hsz := hx.size
  refine rowP_vc (fz := []) Tryd.func11 rfl (by decide) rfl ok11 ?_
  intro P bin cmp cnv neg com bnot beq ofN toN at_ sub_ scmp cat sget ssz ssub elem fld_ hP hA
  conv => cbv
  have oz : ofN (ssz x) = (xs.length : Int) := by rw [ofN_ hA, ssz_ hA, hsz]
  refine ⟨Lt, fun y => ⟨[(0, .v (.string x)), (3, .v (.slice y.a y.n y.c)), (4, .v (.int .i64 y.i))], R, [], 0, y.rs⟩,
    fun k y => ∃ j : Nat, y.i = j ∧ j ≤ xs.length ∧ k = xs.length - j ∧ Base1 y.rs [] y.a y.n y.c 5 1 y.zs ∧ y.zs = ints .u8 ((xs.take j).map q32) ∧ y.n = j ∧ (y.n ≠ 0 → y.a.isSome = true),
    ⟨xs.length, ⟨0, none, 0, 0, [], []⟩, ⟨⟨rfl, rfl, rfl, trivial⟩, rfl, trivial, rfl, .refl _⟩, 0, rfl, Nat.zero_le _, rfl, Base1.nil, rfl, rfl, fun h => absurd rfl h⟩, ?_⟩
  rintro k ⟨i, a1, n1, c1, zs, rs⟩ ⟨j, hi, hj, hk, hb, hz, hn1, hs1⟩
  simp only at hi hb hz hn1 hs1
  conv => cbv
  by_cases hlt : j < xs.length
  case pos =>
    refine br_t (by rw [oz, cmp_lss hA]; simp; omega) ?_
    conv => cbv
    obtain ⟨d, hd⟩ : ∃ d, xs[j]? = some d := ⟨_, List.getElem?_eq_getElem hlt⟩
    have hdb := hr d (List.mem_of_getElem? hd)
    have hix : (0 : Int) ≤ i ∧ i < (x.size : Int) := by rw [hsz]; omega
    have hget : sget x i = d := sb_get hA hx j hi hd
    have hi2 : bin .add .i64 i 1 = ((j + 1 : Nat) : Int) := by rw [hi, add_i64 hA (by omega)]; rfl
    refine ⟨hix, ?_⟩
    simp (maxSteps := 10000000) only [hget]
    conv => cbv
    refine ⟨by decide, ?_⟩
    conv => cbv
    have hdd : bin .quo .u8 d 32 = q32 d := (quo_u8 hA (by omega) (by omega) (by omega))
    refine ⟨n1, zs, _, _, _, 1, [.int .u8 (bin .quo .u8 d 32)], hb.base, .refl _, .own _ _ 1 1 _ _ rfl rfl rfl (by simp [Value.oneCell']), by omega, by omega, ?_⟩
    intro a2 n2 c2 z2 hn2 hz2 hs2
    conv => cbv
    have hzz : z2 = ints .u8 ( (xs.take (j + 1)).map q32) := by
      rw [hz2, hz, take_snoc hd, hdd]
      simp [ints]
    exact ⟨xs.length - (j + 1), ⟨bin .add .i64 i 1, a2, n2, c2, z2, _⟩, by omega, ⟨⟨rfl, rfl, rfl, trivial⟩, rfl, trivial, rfl, .refl _⟩, j + 1, hi2, hlt, rfl, Base1.row, hzz, by show n2 = _; omega, hs2⟩
  refine br_f (by rw [oz, cmp_lss hA]; simp; omega) ?_
  have hjl : j = xs.length := by omega
  subst hjl
  rw [List.take_length] at hz
  conv => cbv
  refine ⟨n1, zs, _, _, _, 1, [.int .u8 0], hb.base, .refl _, .own _ _ 1 1 _ _ rfl rfl rfl (by simp [Value.oneCell']), by omega, by omega, ?_⟩
  intro a3 n3 c3 z3 hn3 hz3 hs3
  conv => cbv
  rw [hz] at hz3
  refine ⟨Lt, fun y => ⟨[(0, .v (.string x)), (3, .v (.slice y.a y.n y.c)), (5, .v (.int .i64 y.i))], R, [], 1, y.rs⟩,
    fun k y => ∃ j : Nat, y.i = j ∧ j ≤ xs.length ∧ k = xs.length - j ∧ Base1 y.rs [] y.a y.n y.c 5 1 y.zs ∧ y.zs = ints .u8 (xs.map q32 ++ 0 :: (xs.take j).map r32) ∧ y.n = xs.length + 1 + j ∧ (y.n ≠ 0 → y.a.isSome = true),
    ⟨xs.length, ⟨0, a3, n3, c3, z3, _⟩, ⟨⟨rfl, rfl, rfl, trivial⟩, rfl, trivial, rfl, .refl _⟩, 0, rfl, Nat.zero_le _, rfl, Base1.row, by show z3 = _; rw [hz3]; simp [ints], by show n3 = _; omega, hs3⟩, ?_⟩
  clear hb hs1 hz hn1
  rintro k ⟨i, a1, n1, c1, zs, rs⟩ ⟨j, hi, hj, hk, hb, hz, hn1, hs1⟩
  simp only at hi hb hz hn1 hs1
  conv => cbv
  by_cases hlt : j < xs.length
  case pos =>
    refine br_t (by rw [oz, cmp_lss hA]; simp; omega) ?_
    conv => cbv
    obtain ⟨d, hd⟩ : ∃ d, xs[j]? = some d := ⟨_, List.getElem?_eq_getElem hlt⟩
    have hdb := hr d (List.mem_of_getElem? hd)
    have hix : (0 : Int) ≤ i ∧ i < (x.size : Int) := by rw [hsz]; omega
    have hget : sget x i = d := sb_get hA hx j hi hd
    have hi2 : bin .add .i64 i 1 = ((j + 1 : Nat) : Int) := by rw [hi, add_i64 hA (by omega)]; rfl
    refine ⟨hix, ?_⟩
    simp (maxSteps := 10000000) only [hget]
    conv => cbv
    refine ⟨by decide, ?_⟩
    conv => cbv
    have hdd : bin .rem .u8 d 32 = r32 d := (rem_u8 hA (by omega))
    refine ⟨n1, zs, _, _, _, 1, [.int .u8 (bin .rem .u8 d 32)], hb.base, .refl _, .own _ _ 1 1 _ _ rfl rfl rfl (by simp [Value.oneCell']), by omega, by omega, ?_⟩
    intro a2 n2 c2 z2 hn2 hz2 hs2
    conv => cbv
    have hzz : z2 = ints .u8 (xs.map q32 ++ 0 :: (xs.take (j + 1)).map r32) := by
      rw [hz2, hz, take_snoc hd, hdd]
      simp [ints]
    exact ⟨xs.length - (j + 1), ⟨bin .add .i64 i 1, a2, n2, c2, z2, _⟩, by omega, ⟨⟨rfl, rfl, rfl, trivial⟩, rfl, trivial, rfl, .refl _⟩, j + 1, hi2, hlt, rfl, Base1.row, hzz, by show n2 = _; omega, hs2⟩
  refine br_f (by rw [oz, cmp_lss hA]; simp; omega) ?_
  have hjl : j = xs.length := by omega
  subst hjl
  rw [List.take_length] at hz
  conv => cbv
  rcases hb with ⟨_, _, e, _⟩ | rfl
  · omega
  exact fun _ => .inr (.inl ⟨_, List.mem_cons_self .., rfl, rfl, rfl, by show zs = _; rw [hz]; rfl, by show n1 = _; rw [xpI_len]; omega⟩)

section
variable {bin : BinOp → IntKind → Int → Int → Int} {cmp : BinOp → Int → Int → Bool} {cnv : IntKind → Int → Int} {neg : IntKind → Int → Int} {com : IntKind → Int → Int} {bnot : Bool → Bool} {beq : Bool → Bool → Bool} {ofN : Nat → Int} {toN : Int → Nat} {at_ : Nat → Nat → Nat → Nat} {sub_ : Nat → Nat → Nat} {scmp : BinOp → ByteArray → ByteArray → Bool} {cat : ByteArray → ByteArray → ByteArray} {sget : ByteArray → Int → Int} {ssz : ByteArray → Nat} {ssub : ByteArray → Nat → Nat → ByteArray} {elem : Option Addr → Int → Nat → Addr} {fld_ : Addr → Nat → Addr}
  (hA : (⟨bin, cmp, cnv, neg, com, bnot, beq, ofN, toN, at_, sub_, scmp, cat, sget, ssz, ssub, elem, fld_⟩ : Ar) = Ar.real)
include hA

theorem topS {c : Nat} {cv : Int} (h : cv = c) : bin .shr .u32 cv 25 = ((c / 33554432 : Nat) : Int) := by
  rw [shr_u32 hA (by decide), h]
  show (c : Int) / 2 ^ 25 = _
  omega

theorem stepS {c : Nat} {cv d : Int} (h : cv = c) (hc : c < 2 ^ 30) (hd : 0 ≤ d ∧ d ≤ 255) : bin .xor .u32 (bin .shl .u32 (bin .and .u32 cv 33554431) 5) (cnv .u32 d) = ((pmB c (byF d) : Nat) : Int) := by
  have e : bin .and .u32 cv 33554431 = ((c % 33554432 : Nat) : Int) := by
    rw [h]
    refine (and_u32 hA (x := c) (y := 2 ^ 25 - 1) (by omega) (by decide)).trans ?_
    rw [Nat.and_two_pow_sub_one_eq_mod]
  have e2 : bin .shl .u32 (bin .and .u32 cv 33554431) 5 = ((c % 33554432 * 32 : Nat) : Int) := by
    rw [e, shl_u32 hA (by decide)]
    · show ((c % 33554432 : Nat) : Int) * 2 ^ 5 = _
      omega
    · show _ ≤ ((c % 33554432 : Nat) : Int) * 2 ^ 5 ∧ ((c % 33554432 : Nat) : Int) * 2 ^ 5 ≤ _
      omega
  rw [e2, cnv_u32 hA (by omega), show d = ((byF d : Nat) : Int) by unfold byF; omega, xor_u32 hA (by omega) (by unfold byF; omega)]
  rfl

theorem bitS {t m : Nat} {tv ii : Int} (h : tv = t) (ht : t < 64) (hi : ii = m) (hm : m < 5) : bin .and .u32 (bin .shr .u32 tv ii) 1 = ((t / 2 ^ m % 2 : Nat) : Int) := by
  have e : bin .shr .u32 tv ii = ((t / 2 ^ m : Nat) : Int) := by
    rw [shr_u32 hA (by omega), h, hi, Int.toNat_natCast]
    push_cast
    rfl
  rw [e]
  have h3 := Nat.div_le_self t (2 ^ m)
  refine (and_u32 hA (x := t / 2 ^ m) (y := 2 ^ 1 - 1) (by omega) (by decide)).trans ?_
  rw [Nat.and_two_pow_sub_one_eq_mod]
end

theorem size32 : ∃ j, Tryd.prog.info? 23 = some j ∧ j.size = 1 := by
  have h : (Tryd.prog.info? 23).map (·.size) = some 1 := by kernel_rfl
  obtain ⟨j, h1, h2⟩ := Option.map_eq_some_iff.1 h
  exact ⟨j, h1, h2⟩

/-- The reference's numbers, as they lie in the call's own block. -/
abbrev gB : HB := ⟨23, [.v (.int .u32 996825010), .v (.int .u32 642813549), .v (.int .u32 513874426), .v (.int .u32 1027748829), .v (.int .u32 705979059)]⟩


set_option maxRecDepth 100000 in
set_option maxHeartbeats 4000000 in
theorem polymodS {P : Program} (hP : P = Tryd.prog) (R : RO) (rs : List Row) (a : Addr) (n c : Nat) (vs : List Int) (zs : List Value) (hr0 : rs[0]? = some ⟨some a, n, c, 5, 1, zs⟩) (hz : zs = ints .u8 vs) (hn : n = vs.length) (hl : n ≤ 1000000) (hv : ∀ x ∈ vs, 0 ≤ x ∧ x ≤ 255) {K : RO → List (Nat × HB) → Nat → List Row → SV → Prop}
    (hk : ∀ q : Int, q = ((pmL (vs.map byF) 1 : Nat) : Int) → K R [] 0 rs (.v (.int .u32 q))) : CallP P 10 [.v (.slice (some a) n c)] R [] 0 rs K := by
  subst hP
  obtain ⟨jo, hjo, hjs⟩ := size32
  have hw : CallP Tryd.prog 10 [.v (.slice (some a) n c)] R [] 0 rs fun R' _ _ rs' r => ∀ _ : Unit, R' = R ∧ rs' = rs ∧ ∃ q, r = .v (.int .u32 q) ∧ q = ((pmL (vs.map byF) 1 : Nat) : Int) := by
    refine callP_of_vc (fz := []) Tryd.func10 rfl (by decide) (Nat.le_of_ble_eq_true rfl) ok10 (by simp [labL, lab]) ?_
    rintro P ⟨bin, cmp, cnv, neg, com, bnot, beq, ofN, toN, at_, sub_, scmp, cat, sget, ssz, ssub, elem, fld_⟩ hP hA
    conv => cbv
    have on := ofN_ hA n
    refine ⟨Lo, fun y => ⟨[(5, .v (.int .i64 y.i)), (4, .v (.int .u32 y.c)), (3, .se 0 0 5 5), (0, .v (.slice (some a) n c))], R, [(0, gB)], 1, rs⟩,
      fun k y => ∃ j : Nat, y.i = j ∧ j ≤ vs.length ∧ k = vs.length - j ∧ y.c = ((pmL ((vs.take j).map byF) 1 : Nat) : Int),
      ⟨vs.length, ⟨0, 1⟩, ⟨⟨rfl, rfl, rfl, rfl, trivial⟩, rfl, ⟨rfl, trivial⟩, rfl, .refl _⟩, 0, rfl, Nat.zero_le _, rfl, rfl⟩, ?_⟩
    rintro k ⟨i, c1⟩ ⟨j, hi, hj, hk, hc1⟩
    simp only at hi hc1
    conv => cbv
    by_cases hlt : j < vs.length
    case neg =>
      refine br_f (by rw [on, cmp_lss hA]; simp; omega) ?_
      conv => cbv
      rw [List.take_of_length_le (by omega)] at hc1
      exact fun _ => ⟨rfl, rfl, _, rfl, hc1⟩
    refine br_t (by rw [on, cmp_lss hA]; simp; omega) ?_
    conv => cbv
    obtain ⟨d, hd⟩ : ∃ d, vs[j]? = some d := ⟨_, List.getElem?_eq_getElem hlt⟩
    have hdb := hv d (List.mem_of_getElem? hd)
    have hi2 : bin .add .i64 i 1 = ((j + 1 : Nat) : Int) := by rw [hi, add_i64 hA (by omega)]; rfl
    have hpt := pm_take byF hd 1
    have hlim : pmL ((vs.take j).map byF) 1 < 2 ^ 30 := pmL_f by_b hv (by decide) j
    obtain ⟨X, hX⟩ : ∃ X, X = pmL ((vs.take j).map byF) 1 := ⟨_, rfl⟩
    rw [← hX] at hc1 hpt hlim
    repeat (refine ⟨by decide, ?_⟩; conv => cbv)
    refine ⟨by omega, by rw [on]; omega, rfl, ?_⟩
    conv => cbv
    refine ld_row hA 0 hr0 rfl rfl (v := .int .u8 d) (by show zs[_]? = _; rw [hz, ints, List.getElem?_map, show i.toNat = j by omega, hd]; rfl) ?_
    conv => cbv
    repeat (refine ⟨by decide, ?_⟩; conv => cbv)
    obtain ⟨tv, htv⟩ : ∃ t, t = bin .shr .u32 c1 25 := ⟨_, rfl⟩
    obtain ⟨bv, hbv⟩ : ∃ b, b = bin .xor .u32 (bin .shl .u32 (bin .and .u32 c1 33554431) 5) (cnv .u32 d) := ⟨_, rfl⟩
    simp (maxSteps := 10000000) only [← htv, ← hbv]
    rw [topS hA hc1] at htv
    rw [stepS hA hc1 hlim hdb] at hbv
    have hBlt := pmB_lt (c := X) (v := byF d) (by_b d hdb)
    refine ⟨Lo, fun y => ⟨[(26, .v (.int .i64 y.i)), (4, .v (.int .u32 y.c)), (6, .v (.int .u32 tv)), (3, .se 0 0 5 5), (5, .v (.int .i64 i)), (0, .v (.slice (some a) n c))], R, [(0, gB)], 1, rs⟩,
      fun k y => ∃ m : Nat, y.i = m ∧ m ≤ 5 ∧ k = 5 - m ∧ y.c = ((pmK (X / 33554432) m (pmB X (byF d)) : Nat) : Int),
      ⟨5, ⟨0, bv⟩, ⟨⟨rfl, rfl, rfl, rfl, rfl, rfl, trivial⟩, rfl, ⟨rfl, trivial⟩, rfl, .refl _⟩, 0, rfl, Nat.zero_le _, rfl, hbv⟩, ?_⟩
    rintro kk ⟨ii, cc⟩ ⟨m, hii, hm, hkk, hcc⟩
    simp only at hii hcc
    conv => cbv
    by_cases hm5 : m < 5
    case neg =>
      refine br_f (by rw [cmp_lss hA]; simp; omega) ?_
      have hm6 : m = 5 := by omega
      subst hm6
      conv => cbv
      exact ⟨vs.length - (j + 1), ⟨bin .add .i64 i 1, cc⟩, by omega, ⟨⟨rfl, rfl, rfl, rfl, trivial⟩, rfl, ⟨rfl, trivial⟩, rfl, .refl _⟩, j + 1, hi2, hlt, rfl, by show cc = _; rw [hcc, hpt]; rfl⟩
    refine br_t (by rw [cmp_lss hA]; simp; omega) ?_
    conv => cbv
    have hbit := bitS hA htv (by omega) hii hm5
    have hpk : pmK (X / 33554432) (m + 1) (pmB X (byF d)) = if X / 33554432 / 2 ^ m % 2 = 1 then pmK (X / 33554432) m (pmB X (byF d)) ^^^ gn m else pmK (X / 33554432) m (pmB X (byF d)) := rfl
    have hin : bin .add .i64 ii 1 = ((m + 1 : Nat) : Int) := by rw [hii, add_i64 hA (by omega)]; rfl
    refine ⟨by omega, ?_⟩
    conv => cbv
    by_cases hb1 : X / 33554432 / 2 ^ m % 2 = 1
    case neg =>
      rw [if_neg hb1] at hpk
      refine br_f (by rw [hbit, cmp_eql hA]; exact beq_false_of_ne (by omega)) ?_
      conv => cbv
      exact ⟨5 - (m + 1), ⟨bin .add .i64 ii 1, cc⟩, by omega, ⟨⟨rfl, rfl, rfl, rfl, rfl, rfl, trivial⟩, rfl, ⟨rfl, trivial⟩, rfl, .refl _⟩, m + 1, hin, hm5, rfl, by rw [hpk]; exact hcc⟩
    rw [if_pos hb1] at hpk
    refine br_t (by rw [hbit, cmp_eql hA, hb1]; rfl) ?_
    conv => cbv
    rcases (by omega : m = 0 ∨ m = 1 ∨ m = 2 ∨ m = 3 ∨ m = 4) with rfl | rfl | rfl | rfl | rfl
    · refine raw_se_ix rfl rfl rfl (i := 0) hii (by decide) (by rw [hP]; exact Tryd.underlying39) (by rw [hP]; exact hjo) (by show 0 < 1; decide) (q := 0) (by rw [hjs]) ?_
      conv => cbv
      have hx9 : bin .xor .u32 cc ((gn 0 : Nat) : Int) = ((pmK (X / 33554432) (0 + 1) (pmB X (byF d)) : Nat) : Int) := by
        have h1 := pmK_lt (X / 33554432) 0 hBlt
        have h2 := gn_lt 0
        rw [hcc, xor_u32 hA (by omega) (by omega), hpk]
      exact ⟨5 - (0 + 1), ⟨bin .add .i64 ii 1, _⟩, by omega, ⟨⟨rfl, rfl, rfl, rfl, rfl, rfl, trivial⟩, rfl, ⟨rfl, trivial⟩, rfl, .refl _⟩, 0 + 1, hin, hm5, rfl, hx9⟩
    · refine raw_se_ix rfl rfl rfl (i := 1) hii (by decide) (by rw [hP]; exact Tryd.underlying39) (by rw [hP]; exact hjo) (by show 0 < 1; decide) (q := 1) (by rw [hjs]) ?_
      conv => cbv
      have hx9 : bin .xor .u32 cc ((gn 1 : Nat) : Int) = ((pmK (X / 33554432) (1 + 1) (pmB X (byF d)) : Nat) : Int) := by
        have h1 := pmK_lt (X / 33554432) 1 hBlt
        have h2 := gn_lt 1
        rw [hcc, xor_u32 hA (by omega) (by omega), hpk]
      exact ⟨5 - (1 + 1), ⟨bin .add .i64 ii 1, _⟩, by omega, ⟨⟨rfl, rfl, rfl, rfl, rfl, rfl, trivial⟩, rfl, ⟨rfl, trivial⟩, rfl, .refl _⟩, 1 + 1, hin, hm5, rfl, hx9⟩
    · refine raw_se_ix rfl rfl rfl (i := 2) hii (by decide) (by rw [hP]; exact Tryd.underlying39) (by rw [hP]; exact hjo) (by show 0 < 1; decide) (q := 2) (by rw [hjs]) ?_
      conv => cbv
      have hx9 : bin .xor .u32 cc ((gn 2 : Nat) : Int) = ((pmK (X / 33554432) (2 + 1) (pmB X (byF d)) : Nat) : Int) := by
        have h1 := pmK_lt (X / 33554432) 2 hBlt
        have h2 := gn_lt 2
        rw [hcc, xor_u32 hA (by omega) (by omega), hpk]
      exact ⟨5 - (2 + 1), ⟨bin .add .i64 ii 1, _⟩, by omega, ⟨⟨rfl, rfl, rfl, rfl, rfl, rfl, trivial⟩, rfl, ⟨rfl, trivial⟩, rfl, .refl _⟩, 2 + 1, hin, hm5, rfl, hx9⟩
    · refine raw_se_ix rfl rfl rfl (i := 3) hii (by decide) (by rw [hP]; exact Tryd.underlying39) (by rw [hP]; exact hjo) (by show 0 < 1; decide) (q := 3) (by rw [hjs]) ?_
      conv => cbv
      have hx9 : bin .xor .u32 cc ((gn 3 : Nat) : Int) = ((pmK (X / 33554432) (3 + 1) (pmB X (byF d)) : Nat) : Int) := by
        have h1 := pmK_lt (X / 33554432) 3 hBlt
        have h2 := gn_lt 3
        rw [hcc, xor_u32 hA (by omega) (by omega), hpk]
      exact ⟨5 - (3 + 1), ⟨bin .add .i64 ii 1, _⟩, by omega, ⟨⟨rfl, rfl, rfl, rfl, rfl, rfl, trivial⟩, rfl, ⟨rfl, trivial⟩, rfl, .refl _⟩, 3 + 1, hin, hm5, rfl, hx9⟩
    · refine raw_se_ix rfl rfl rfl (i := 4) hii (by decide) (by rw [hP]; exact Tryd.underlying39) (by rw [hP]; exact hjo) (by show 0 < 1; decide) (q := 4) (by rw [hjs]) ?_
      conv => cbv
      have hx9 : bin .xor .u32 cc ((gn 4 : Nat) : Int) = ((pmK (X / 33554432) (4 + 1) (pmB X (byF d)) : Nat) : Int) := by
        have h1 := pmK_lt (X / 33554432) 4 hBlt
        have h2 := gn_lt 4
        rw [hcc, xor_u32 hA (by omega) (by omega), hpk]
      exact ⟨5 - (4 + 1), ⟨bin .add .i64 ii 1, _⟩, by omega, ⟨⟨rfl, rfl, rfl, rfl, rfl, rfl, trivial⟩, rfl, ⟨rfl, trivial⟩, rfl, .refl _⟩, 4 + 1, hin, hm5, rfl, hx9⟩
  refine CallP.forget hw ?_
  rintro R' hp' nx' rs' r h9
  obtain ⟨rfl, rfl, q, rfl, hq⟩ := h9 ()
  exact ⟨[], 0, Nat.le_refl _, Nat.zero_le _, fun l b h => by simp [find] at h, trivial, hk q hq⟩
end Go.Proofs.YtfkdaelfehibcaaDoor.Be
