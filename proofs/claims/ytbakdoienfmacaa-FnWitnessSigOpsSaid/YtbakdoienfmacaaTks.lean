/- Witness programs and classes of scripts: plain, and the reference's. -/
import Derived.Test.YtbakdoienfmacaaTkr
import Derived.Test.YtbakdoienfmacaaTke
import Derived.Test.YtbakdoienfmacaaTkp
set_option linter.unusedSimpArgs false
set_option linter.unusedVariables false
namespace Go.Proofs.Ytbakdoienfmacaa.Tk
open Go Go.Se Go.Proofs Go.Proofs.Ytbakdoienfmacaa.Tytw

/-- Bytes behind a slice's one cell. -/
def BAt (R : RO) (cs : List Value) (xs : List Int) : Prop := ∃ a n c, cs = [.slice a n c] ∧ RI R .u8 a n xs ∧ n ≤ maxLen ∧ n ≤ c

/-- A program of version 0 with q bytes. -/
def WP (q : Nat) (xs : List Int) : Prop := xs.length = q + 2 ∧ xs.getD 0 0 = 0 ∧ xs.getD 1 0 = q

/-- A witness program. -/
def IsProg (xs : List Int) : Prop := 4 ≤ xs.length ∧ xs.length ≤ 42 ∧ smallV (xs.getD 0 0) ≠ none ∧ xs.getD 1 0 = (xs.length : Int) - 2

/-- A script pays to a script's hash. -/
def Pays (xs : List Int) : Prop := xs.length = 23 ∧ xs.getD 0 0 = 169 ∧ xs.getD 1 0 = 20 ∧ xs.getD 22 0 = 135

/-- A script is whole, and pushes alone; its last push. -/
def PO (xs : List Int) : Prop := ∃ l, Toks xs l xs.length ∧ ∀ t ∈ l, t.op ≤ 96
def LastP (xs d : List Int) : Prop := ∃ l t, Toks xs (l ++ [t]) xs.length ∧ (∀ u ∈ l ++ [t], u.op ≤ 96) ∧ d = t.data

theorem LastP.one {xs d d' : List Int} (h : LastP xs d) (h' : LastP xs d') : d = d' := by
  obtain ⟨l, t, h1, _, rfl⟩ := h
  obtain ⟨m, u, i1, _, rfl⟩ := h'
  obtain ⟨he, _⟩ := h1.one (stuck_end rfl) i1 (stuck_end rfl)
  have := List.append_inj' he rfl
  simp at this
  rw [this.2]

/-- The checks of a witness for a program. -/
def PSO (xs : List Int) (wit : List (List Int)) (k : Int) : Prop :=
  (WP 20 xs ∧ k = 1) ∨ (¬ WP 20 xs ∧ WP 32 xs ∧ ∃ l, wit[wit.length - 1]? = some l ∧ Ops true l k) ∨ (¬ WP 20 xs ∧ (¬ WP 32 xs ∨ wit = []) ∧ k = 0)

theorem PSO.one {xs : List Int} {wit : List (List Int)} {k k' : Int} (h : PSO xs wit k) (h' : PSO xs wit k') : k = k' := by
  rcases h with ⟨h1, rfl⟩ | ⟨h1, h2, l, h3, h4⟩ | ⟨h1, h2, rfl⟩ <;> rcases h' with ⟨i1, rfl⟩ | ⟨i1, i2, m, i3, i4⟩ | ⟨i1, i2, rfl⟩
  · rfl
  · exact absurd h1 i1
  · exact absurd h1 i1
  · exact absurd i1 h1
  · rw [h3] at i3
    cases i3
    exact h4.one i4
  · rcases i2 with i2 | rfl
    · exact absurd h2 i2
    · simp at h3
  · exact absurd i1 h1
  · rcases h2 with h2 | rfl
    · exact absurd i2 h2
    · simp at i3
  · rfl

/-- The checks of a witness. -/
def WSO (sig pk : List Int) (wit : List (List Int)) (k : Int) : Prop :=
  (IsProg pk ∧ PSO pk wit k) ∨ (¬ IsProg pk ∧ ((Pays pk ∧ ∃ d, LastP sig d ∧ PSO d wit k) ∨ ((¬ Pays pk ∨ ∀ d, ¬ LastP sig d) ∧ k = 0)))

theorem WSO.one {sig pk : List Int} {wit : List (List Int)} {k k' : Int} (h : WSO sig pk wit k) (h' : WSO sig pk wit k') : k = k' := by
  rcases h with ⟨h1, h2⟩ | ⟨h1, h2⟩ <;> rcases h' with ⟨i1, i2⟩ | ⟨i1, i2⟩
  · exact h2.one i2
  · exact absurd h1 i1
  · exact absurd i1 h1
  · rcases h2 with ⟨h2, d, h3, h4⟩ | ⟨h2, rfl⟩ <;> rcases i2 with ⟨i2, e, i3, i4⟩ | ⟨i2, rfl⟩
    · obtain rfl := h3.one i3
      exact h4.one i4
    · rcases i2 with i2 | i2
      · exact absurd h2 i2
      · exact absurd h3 (i2 _)
    · rcases h2 with h2 | h2
      · exact absurd i2 h2
      · exact absurd i3 (h2 _)
    · rfl

theorem getD_some {xs : List Int} {i : Nat} {x : Int} (h : xs[i]? = some x) : i < xs.length ∧ xs.getD i 0 = x := by
  refine ⟨?_, by rw [List.getD_eq_getElem?_getD, h]; rfl⟩
  rcases Nat.lt_or_ge i xs.length with h' | h'
  · exact h'
  · rw [List.getElem?_eq_none h'] at h; cases h

theorem some_getD {xs : List Int} {i : Nat} (h : i < xs.length) : xs[i]? = some (xs.getD i 0) := by
  rw [List.getD_eq_getElem?_getD, List.getElem?_eq_getElem h]
  rfl

theorem small_not {op : Int} (h : smallV op ≠ none) : op = 0 ∨ (81 ≤ op ∧ op ≤ 96) := by
  unfold smallV at h
  split at h
  · exact .inl (by assumption)
  split at h
  · exact .inr (by assumption)
  · exact absurd rfl h

theorem step_small {op : Int} {rest d : List Int} {k : Nat} (h : smallV op ≠ none) (hs : stepT (op :: rest) = some (d, k)) : d = [] ∧ k = 1 := by
  have := small_not h
  rw [stepT, if_neg (by omega), if_neg (by omega)] at hs
  simp only [Option.some.injEq, Prod.mk.injEq] at hs
  exact ⟨hs.1.symm, hs.2.symm⟩

/-- A program's tokens. -/
theorem IsProg.toks {xs : List Int} (h : IsProg xs) : Toks xs [⟨xs.getD 0 0, [], 0⟩, ⟨xs.getD 1 0, xs.drop 2, 1⟩] xs.length := by
  obtain ⟨h1, h2, h3, h4⟩ := h
  have hs := small_not h3
  have a1 := Toks.nil (xs := xs) |>.snoc (op := xs.getD 0 0) (d := []) (k := 1) (some_getD (by omega)) (by
    rw [drop_get (by omega), stepT, if_neg (by omega), if_neg (by omega)])
  have a2 := a1.snoc (op := xs.getD 1 0) (d := xs.drop 2) (k := xs.length - 1) (some_getD (by omega)) (by
    rw [Nat.zero_add, drop_get (by omega), stepT, if_pos (by omega), if_neg (by rw [List.length_drop]; omega)]
    simp only [Option.some.injEq, Prod.mk.injEq]
    refine ⟨List.take_of_length_le (by rw [List.length_drop]; omega), by omega⟩)
  rw [show 0 + 1 + (xs.length - 1) = xs.length by omega] at a2
  exact a2

/-- Two tokens of a program. -/
theorem prog_of {xs : List Int} {t0 t1 : Tok} (h : Toks xs [t0, t1] xs.length) (h0 : smallV t0.op ≠ none) (h1 : 2 ≤ t1.op ∧ t1.op ≤ 40) (h4 : 4 ≤ xs.length) (h42 : xs.length ≤ 42) : IsProg xs := by
  obtain ⟨k1, a1, a2, a3, a4⟩ := Toks.unsnoc (l := [t0]) h
  obtain ⟨k0, b1, b2, b3, b4⟩ := Toks.unsnoc (l := []) a1
  have b5 : t0.pos = 0 := Toks.place .nil b1
  rw [b5] at b2 b3 b4
  have b6 := getD_some b2
  have a6 := getD_some a2
  rw [drop_get b6.1, b6.2] at b3
  obtain ⟨_, c1⟩ := step_small h0 b3
  rw [drop_get a6.1, a6.2, stepT, if_pos (by omega)] at a3
  split at a3
  · cases a3
  · simp only [Option.some.injEq, Prod.mk.injEq] at a3
    have e1 : t1.pos = 1 := by omega
    rw [e1] at a6
    exact ⟨h4, h42, by rw [b6.2]; exact h0, by rw [a6.2]; omega⟩

/-- A pattern's answer. -/
def LikeIs (xs ps : List Int) : Prop := xs.length = ps.length ∧ ∀ i, i < ps.length → 0 ≤ ps.getD i 0 → ps.getD i 0 = xs.getD i 0

theorem like_wp {q : Nat} {xs : List Int} : LikeIs xs ([0, (q : Int)] ++ List.replicate q (-1) ++ []) ↔ WP q xs := by
  have hl : ([0, (q : Int)] ++ List.replicate q (-1) ++ []).length = q + 2 := by simp
  constructor
  · rintro ⟨h1, h2⟩
    rw [hl] at h1 h2
    have a := h2 0 (by omega) (by simp)
    have b := h2 1 (by omega) (by simp)
    refine ⟨h1, ?_, ?_⟩
    · rw [← a]; simp
    · rw [← b]; simp
  · rintro ⟨h1, h2, h3⟩
    refine ⟨by rw [hl, h1], fun i hi h0 => ?_⟩
    match i with
    | 0 => rw [h2]; simp
    | 1 => rw [h3]; simp
    | i + 2 =>
      rw [hl] at hi
      have : ([0, (q : Int)] ++ List.replicate q (-1) ++ []).getD (i + 2) 0 = -1 := by
        simp [List.getD_eq_getElem?_getD, List.getElem?_replicate]
        rw [if_pos (by omega)]
        rfl
      rw [this] at h0
      omega


set_option maxRecDepth 100000 in
theorem likeS {P : Program} (hP : P = Try.prog) (R : RO) (a : Option Addr) (n c : Nat) (xs : List Int) (h : RI R .u8 a n xs) (hn : n ≤ 100000) (b : Option Addr) (m d : Nat) (ps : List Int) (g : RI R .i64 b m ps) :
    RetP P 59 [.slice a n c, .slice b m d] R fun _ v => ∃ r, v = .bool r ∧ (r = true ↔ LikeIs xs ps) := by
  subst hP
  have hl := h.len
  have gl := g.len
  refine retP_vc (fz := []) Try.func59 rfl (by decide) rfl ok59 ?_
  intro P bin cmp cnv neg com bnot beq ofN toN at_ sub_ scmp cat sget ssz ssub elem fld_ hP hA
  conv => cbv
  have o := ofN_ hA n
  have o2 := ofN_ hA m
  by_cases hnm : n = m
  case neg =>
    refine br_t (by rw [o, o2, cmp_neq hA]; simp; omega) ?_
    conv => cbv
    intro ρ R'' _ _ _
    refine ⟨_, rfl, by simp, fun hx => ?_⟩
    have := hx.1
    omega
  refine br_f (by rw [o, o2, cmp_neq hA]; simp; omega) ?_
  conv => cbv
  refine ⟨Int, fun x => ⟨[(5, .v (.int .i64 x)), (0, .v (.slice a n c)), (1, .v (.slice b m d))], R, [], 0, []⟩,
    fun k x => ∃ j : Nat, x = j ∧ j ≤ m ∧ k = m - j ∧ ∀ i, i < j → 0 ≤ ps.getD i 0 → ps.getD i 0 = xs.getD i 0,
    ⟨m, 0, ⟨⟨rfl, rfl, rfl, trivial⟩, rfl, trivial, rfl, .refl _⟩, 0, rfl, by omega, rfl, fun i hi => by omega⟩, ?_⟩
  rintro k i ⟨j, hi, hj, hk, hall⟩
  conv => cbv
  by_cases hlt : j < m
  case neg =>
    refine br_f (by rw [o2, cmp_lss hA]; simp; omega) ?_
    conv => cbv
    intro ρ R'' _ _ _
    exact ⟨_, rfl, fun _ => ⟨by omega, fun i hi => hall i (by omega)⟩, fun _ => rfl⟩
  refine br_t (by rw [o2, cmp_lss hA]; simp; omega) ?_
  conv => cbv
  have ei : bin .add .i64 i 1 = i + 1 := add_i64 hA (by omega)
  have hij : i.toNat = j := by omega
  refine ⟨[0, 1, 2, 3, 4, 5, 6, 7, 8, 9, 10, 11, 12, 13, 14, 15, 16], [], mix hP, by kernel_rfl, ?_⟩
  conv => cbv
  refine ⟨by omega, by rw [o2]; omega, (g.at_ i (by omega) (by omega)).1, ?_⟩
  refine ld_ri hA g (by omega) (by omega) ?_
  intro q hq hqw
  rw [hij] at hq
  conv => cbv
  by_cases q0 : 0 ≤ q
  case neg =>
    have q1 : cmp .geq q 0 = false := by rw [cmp_geq hA]; simp; omega
    simp only [q1]
    conv => cbv
    refine ⟨m - (j + 1), i + 1, by omega, ⟨⟨?_, rfl, rfl, trivial⟩, rfl, trivial, rfl, .refl _⟩, j + 1, by show i + 1 = ((j + 1 : Nat) : Int); omega, by omega, rfl, fun e he h0 => ?_⟩
    · rw [ei]
      rfl
    · rcases Nat.lt_or_ge e j with h' | h'
      · exact hall e h' h0
      · obtain rfl : e = j := by omega
        rw [← hq] at h0
        omega
  have q1 : cmp .geq q 0 = true := by rw [cmp_geq hA]; simp; omega
  simp only [q1]
  conv => cbv
  refine ⟨by omega, by rw [o2]; omega, (g.at_ i (by omega) (by omega)).1, ?_⟩
  refine ld_ri hA g (by omega) (by omega) ?_
  intro q' hq' hqw'
  rw [hij, ← hq] at hq'
  subst hq'
  conv => cbv
  refine ix_u8 hA h j hi (by omega) ?_
  refine ld_u8 hA h (by omega) (by omega) ?_
  intro y hy y0 y1
  rw [hij] at hy
  conv => cbv
  have ey : cnv .i64 y = y := cnv_i64 hA (by omega)
  by_cases hqy : q' = y
  case neg =>
    refine br_t (by rw [ey, cmp_neq hA]; simp; omega) ?_
    conv => cbv
    intro ρ R'' _ _ _
    refine ⟨_, rfl, by simp, fun hx => ?_⟩
    have := hx.2 j (by omega) (by omega)
    omega
  refine br_f (by rw [ey, cmp_neq hA]; simp; omega) ?_
  conv => cbv
  refine ⟨m - (j + 1), i + 1, by omega, ⟨⟨?_, rfl, rfl, trivial⟩, rfl, trivial, rfl, .refl _⟩, j + 1, by show i + 1 = ((j + 1 : Nat) : Int); omega, by omega, rfl, fun e he h0 => ?_⟩
  · rw [ei]
    rfl
  · rcases Nat.lt_or_ge e j with h' | h'
    · exact hall e h' h0
    · obtain rfl : e = j := by omega
      omega

structure Lr where
  i : Int
  a : Option Addr
  n : Nat
  c : Nat
  zs : List Value
  rs : List Row

set_option maxRecDepth 100000 in
theorem patternS {P : Program} (hP : P = Try.prog) (R : RO) (a : Option Addr) (n c : Nat) (xs : List Int) (h : RI R .i64 a n xs) (hn : n ≤ 100) (ki : Int) (k : Nat) (hki : ki = k) (hk : k ≤ 100) (b : Option Addr) (m d : Nat) (ys : List Int) (g : RI R .i64 b m ys) (hm : m ≤ 100) :
    RowP P 60 [.slice a n c, .int .i64 ki, .slice b m d] R 3 1 (Bs .i64 (xs ++ List.replicate k (-1) ++ ys)) := by
  subst hP
  have hl := h.len
  have gl := g.len
  refine rowP_vc (fz := []) Try.func60 rfl (by decide) rfl ok60 ?_
  intro P bin cmp cnv neg com bnot beq ofN toN at_ sub_ scmp cat sget ssz ssub elem fld_ hP hA
  conv => cbv
  refine ⟨0, [], _, _, _, n, _, .own 0 0 _ [] rfl rfl rfl rfl (by decide), .refl _, h.src, by omega, by omega, ?_⟩
  intro a1 n1 c1 z1 hn1 hz1 hs1
  conv => cbv
  refine ⟨Lr, fun x => ⟨[(12, .v (.int .i64 x.i)), (11, .v (.int .i64 ki)), (7, .v (.slice x.a x.n x.c)), (2, .v (.slice b m d))], R, [], 1, x.rs⟩,
    fun m x => ∃ j : Nat, x.i = j ∧ j ≤ k ∧ m = k - j ∧ Base1 x.rs [] x.a x.n x.c 3 1 x.zs ∧ x.n = n + j ∧ x.zs = ints .i64 (xs ++ List.replicate j (-1)) ∧ (x.n ≠ 0 → x.a.isSome = true),
    ⟨k, ⟨0, a1, n1, c1, z1, _⟩, ⟨⟨rfl, rfl, rfl, rfl, trivial⟩, rfl, trivial, rfl, .refl _⟩, 0, rfl, by omega, rfl, Base1.row, by show n1 = n + 0; omega, by show z1 = _; rw [hz1]; simp, hs1⟩, ?_⟩
  rintro k' ⟨i, a2, n2, c2, z2, rs⟩ ⟨j, hi, hj, hk', hb, hn2, hz2, hs2⟩
  simp only at hi hb hn2 hz2 hs2
  conv => cbv
  by_cases hlt : j < k
  case neg =>
    refine br_f (by rw [cmp_lss hA]; simp; omega) ?_
    conv => cbv
    obtain rfl : j = k := by omega
    refine ⟨n2, z2, _, _, _, m, _, hb.base, .refl _, g.src, by omega, by omega, ?_⟩
    intro a3 n3 c3 z3 hn3 hz3 hs3
    conv => cbv
    refine fun _ => Base1.isRow (rest := []) Base1.row ⟨?_, ?_⟩
    · simp
      omega
    · rw [hz3, hz2, ints_app]
  refine br_t (by rw [cmp_lss hA]; simp; omega) ?_
  conv => cbv
  have ei : bin .add .i64 i 1 = i + 1 := add_i64 hA (by omega)
  refine ⟨n2, z2, _, _, _, 1, ints .i64 [-1], hb.base, .refl _, .own 1 0 1 1 _ _ rfl rfl rfl (ints_one _ _), by omega, by omega, ?_⟩
  intro a3 n3 c3 z3 hn3 hz3 hs3
  conv => cbv
  refine ⟨k - (j + 1), ⟨i + 1, a3, n3, c3, z3, _⟩, by omega, ⟨⟨?_, rfl, rfl, rfl, trivial⟩, rfl, trivial, rfl, .refl _⟩, j + 1, by show i + 1 = ((j + 1 : Nat) : Int); omega, by omega, rfl, Base1.row, by show n3 = n + (j + 1); omega, ?_, hs3⟩
  · rw [ei]
    rfl
  · show z3 = _
    rw [hz3, hz2, ints_app, List.append_assoc, List.replicate_succ']


set_option maxRecDepth 100000 in
theorem isWKey {P : Program} (hP : P = Try.prog) (R : RO) (a : Option Addr) (n c : Nat) (xs : List Int) (h : RI R .u8 a n xs) (hn : n ≤ 100000) : RetP P 35 [.slice a n c] R fun _ v => ∃ r, v = .bool r ∧ (r = true ↔ WP 20 xs) := by
  subst hP
  have hl := h.len
  refine retP_vc (fz := [4]) Try.func35 rfl (by decide) rfl ok35 ?_
  intro P bin cmp cnv neg com bnot beq ofN toN at_ sub_ scmp cat sget ssz ssub elem fld_ hP hA
  conv => cbv
  refine ⟨ints .i64 [0, 20], rfl, fun R1 b1 hR1 hb1 => ?_⟩
  conv => cbv
  have g1 := RI.blk hb1 (by intro x hx; simp at hx; rcases hx with rfl | rfl <;> decide)
  refine (patternS hP R1 _ _ 2 _ g1 (by decide) 20 20 rfl (by decide) none 0 0 [] RI.nil (by decide)).call rfl ?_
  intro b2 m2 d2 y2 rs2 hb2 hs2 ⟨hm2, hy2⟩
  simp at hm2
  conv => cbv
  rcases hb2 with ⟨_, h0, _⟩ | rfl
  · omega
  refine RetP.callLend (Φ := fun v => ∃ r, v = .bool r ∧ (r = true ↔ WP 20 xs)) (vs := [.slice a n c, .slice b2 m2 d2]) 0 (r := ⟨b2, m2, d2, 3, 1, y2⟩) rfl (fun R3 hR3 hpr => ?_) rfl ?_ ⟨_, by rw [hP]; exact Try.func59, by decide, rfl⟩
  · have g2 := hpr.ri (k := .i64) (by simp; exact hm2) hs2 rfl hy2 (by intro x hx; simp at hx; rcases hx with rfl | rfl | rfl <;> decide)
    refine (likeS hP R3 a n c xs (h.le (RO.le_trans hR1 hR3)) hn b2 m2 d2 _ g2).mono fun _ _ _ => ?_
    rintro ⟨r, rfl, hr⟩
    exact ⟨r, rfl, hr.trans like_wp⟩
  rintro _ ⟨r, rfl, hr⟩
  conv => cbv
  intro ρ R'' _ _ _
  exact ⟨r, rfl, hr⟩

set_option maxRecDepth 100000 in
theorem isWScr {P : Program} (hP : P = Try.prog) (R : RO) (a : Option Addr) (n c : Nat) (xs : List Int) (h : RI R .u8 a n xs) (hn : n ≤ 100000) : RetP P 36 [.slice a n c] R fun _ v => ∃ r, v = .bool r ∧ (r = true ↔ WP 32 xs) := by
  subst hP
  have hl := h.len
  refine retP_vc (fz := [4]) Try.func36 rfl (by decide) rfl ok36 ?_
  intro P bin cmp cnv neg com bnot beq ofN toN at_ sub_ scmp cat sget ssz ssub elem fld_ hP hA
  conv => cbv
  refine ⟨ints .i64 [0, 32], rfl, fun R1 b1 hR1 hb1 => ?_⟩
  conv => cbv
  have g1 := RI.blk hb1 (by intro x hx; simp at hx; rcases hx with rfl | rfl <;> decide)
  refine (patternS hP R1 _ _ 2 _ g1 (by decide) 32 32 rfl (by decide) none 0 0 [] RI.nil (by decide)).call rfl ?_
  intro b2 m2 d2 y2 rs2 hb2 hs2 ⟨hm2, hy2⟩
  simp at hm2
  conv => cbv
  rcases hb2 with ⟨_, h0, _⟩ | rfl
  · omega
  refine RetP.callLend (Φ := fun v => ∃ r, v = .bool r ∧ (r = true ↔ WP 32 xs)) (vs := [.slice a n c, .slice b2 m2 d2]) 0 (r := ⟨b2, m2, d2, 3, 1, y2⟩) rfl (fun R3 hR3 hpr => ?_) rfl ?_ ⟨_, by rw [hP]; exact Try.func59, by decide, rfl⟩
  · have g2 := hpr.ri (k := .i64) (by simp; exact hm2) hs2 rfl hy2 (by intro x hx; simp at hx; rcases hx with rfl | rfl | rfl <;> decide)
    refine (likeS hP R3 a n c xs (h.le (RO.le_trans hR1 hR3)) hn b2 m2 d2 _ g2).mono fun _ _ _ => ?_
    rintro ⟨r, rfl, hr⟩
    exact ⟨r, rfl, hr.trans like_wp⟩
  rintro _ ⟨r, rfl, hr⟩
  conv => cbv
  intro ρ R'' _ _ _
  exact ⟨r, rfl, hr⟩
end Go.Proofs.Ytbakdoienfmacaa.Tk
