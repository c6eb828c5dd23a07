/- The types that some functions name, as the evaluator wants them. Printed by a program of my own (seatgen.py). -/
/- Great numbers by the reference: bytes without zeros ahead, times and over small ones. -/
/- The types that some functions name, as the evaluator wants them. Printed by a program of my own (seatgen.py). -/
/- Great numbers by the reference: times a small one, compared. -/
/- The types that some functions name, as the evaluator wants them. Printed by a program of my own (seatgen.py). -/
import Derived.Test.YtepfbdfbfimefaaDoorSl
import Derived.Test.YtepfbdfbfimefaaDoorProg
import Derived.KernelRfl
import Derived.Test.YtepfbdfbfimefaaDoorMCob
import Derived.Test.YtepfbdfbfimefaaDoorMTynd
section
namespace Go.Proofs.YtepfbdfbfimefaaDoor.Tynb
open Go Go.Se Go.Proofs

/-- int -/
def y3 : Ty := ⟨.int .i64, 1, false, .int .i64 0, 8⟩
theorem ty3 : tyOf Tryd.prog 3 = some y3 := by kernel_rfl
/-- uint8 -/
def y5 : Ty := ⟨.int .u8, 1, false, .int .u8 0, 1⟩
theorem ty5 : tyOf Tryd.prog 5 = some y5 := by kernel_rfl
/-- []uint8 -/
def y22 : Ty := ⟨.slc 5, 1, false, .slice none 0 0, 24⟩
theorem ty22 : tyOf Tryd.prog 22 = some y22 := by kernel_rfl
/-- uint64 -/
def y33 : Ty := ⟨.int .u64, 1, false, .int .u64 0, 8⟩
theorem ty33 : tyOf Tryd.prog 33 = some y33 := by kernel_rfl

/-- function 13: pub-mintmark/spec.trim -/
def tys13 : Nat → Option Ty := fun t => find [(22, y22), (5, y5), (3, y3)] t
theorem ok13 : TysOk Tryd.prog tys13 := tysOk_of ⟨ty22, ty5, ty3, trivial⟩

/-- function 14: pub-mintmark/spec.overSmall -/
def tys14 : Nat → Option Ty := fun t => find [(22, y22), (5, y5), (3, y3), (33, y33)] t
theorem ok14 : TysOk Tryd.prog tys14 := tysOk_of ⟨ty22, ty5, ty3, ty33, trivial⟩
end Go.Proofs.YtepfbdfbfimefaaDoor.Tynb
end
section
set_option linter.unusedSimpArgs false
set_option linter.unusedVariables false
namespace Go.Proofs.YtepfbdfbfimefaaDoor.Co
open Go Go.Se Go.Proofs Go.Proofs.YtepfbdfbfimefaaDoor.Ht Go.Proofs.YtepfbdfbfimefaaDoor.Tynb

def By (xs : List Int) : Prop := ∀ x ∈ xs, 0 ≤ x ∧ x ≤ 255

theorem By.of_wf {xs : List Int} (h : ∀ x ∈ xs, (Lit.int .u8 x).wf = true) : By xs := fun x hx => wf_u8 (h x hx)
theorem By.wf {xs : List Int} (h : By xs) : ∀ x ∈ xs, (Lit.int .u8 x).wf = true := fun x hx => wf8 (h x hx)

theorem lev_lt : ∀ {ds : List Int}, By ds → lev ds < 256 ^ ds.length
  | [], _ => by decide
  | d :: ds, h => by
    have ih := lev_lt (ds := ds) fun x hx => h x (List.mem_cons_of_mem _ hx)
    have hd := h d (List.mem_cons_self ..)
    rw [lev, List.length_cons, Nat.pow_succ]
    omega

theorem be_cons (x : Int) (xs : List Int) : be (x :: xs) = x.toNat * 256 ^ xs.length + be xs := by
  rw [be, List.reverse_cons, lev_app, List.length_reverse, be]
  show lev xs.reverse + 256 ^ xs.length * (x.toNat + 256 * 0) = _
  rw [Nat.mul_zero, Nat.add_zero, Nat.mul_comm, Nat.add_comm]

theorem be_lt {xs : List Int} (h : By xs) : be xs < 256 ^ xs.length := by
  have := lev_lt (ds := xs.reverse) fun x hx => h x (List.mem_reverse.1 hx)
  rwa [List.length_reverse] at this

theorem be_take {xs : List Int} {i : Nat} {d : Int} (h : xs[i]? = some d) : be (xs.take (i + 1)) = be (xs.take i) * 256 + d.toNat := by
  rw [List.take_add_one, h]
  show be (xs.take i ++ [d]) = _
  rw [be_app, Nat.mul_comm, Nat.add_comm]

theorem drop_get {xs : List Int} {i : Nat} {d : Int} (h : xs[i]? = some d) : xs.drop i = d :: xs.drop (i + 1) := by
  have hlt : i < xs.length := by
    have := List.getElem?_eq_some_iff.1 h
    exact this.1
  rw [List.drop_eq_getElem_cons hlt]
  congr 1
  rw [List.getElem?_eq_getElem hlt] at h
  exact Option.some.inj h


set_option maxRecDepth 100000 in
set_option maxHeartbeats 1000000 in
theorem trimP {P : Program} (hP : P = Tryd.prog) (R : RO) (a : Option Addr) (n c : Nat) (xs : List Int) (h : RI R .u8 a n xs) (hc : n ≤ c) (hn : n ≤ 100000) :
    RetP P 13 [.slice a n c] R fun R' r => ∃ a' n' c', r = .slice a' n' c' ∧ RI R' .u8 a' n' (dl (be xs)).reverse ∧ n' ≤ c' := by
  subst hP
  have hl := h.len
  have hby := By.of_wf h.wf
  refine retP_vc (fz := []) Tryd.func13 rfl (by decide) rfl ok13 ?_
  intro P bin cmp cnv neg com bnot beq ofN toN at_ sub_ scmp cat sget ssz ssub elem fld_ hP hA
  conv => cbv
  have o := ofN_ hA n
  refine ⟨Int, fun x => ⟨[(3, .v (.int .i64 x)), (0, .v (.slice a n c))], R, [], 0, []⟩, fun m x => ∃ i : Nat, x = i ∧ i ≤ n ∧ m = n - i ∧ be (xs.drop i) = be xs,
    ⟨n, 0, ⟨⟨rfl, rfl, trivial⟩, rfl, trivial, rfl, .refl _⟩, 0, rfl, by omega, rfl, rfl⟩, ?_⟩
  rintro m x ⟨i, hi, hin, hm, hb⟩
  conv => cbv
  by_cases hlt : i < n
  case neg =>
    have cg : cmp .lss x (ofN n) = false := by rw [o, cmp_lss hA]; simp; omega
    simp (maxSteps := 10000000) only [cg]
    conv => cbv
    have hd0 : xs.drop i = (dl (be xs)).reverse := by rw [← hb, List.drop_of_length_le (by omega)]; show [] = (dl 0).reverse; rw [dl0]; rfl
    refine ⟨i, n, by rw [hi]; rfl, rfl, by omega, hc, ?_⟩
    intro a5 n5 c5 hn5 hc5 ha5
    have h5 := h.part' (l := i) (m := n) (by omega) (Nat.le_refl _) hn5 hc ha5
    have e5 : (xs.drop i).take (n - i) = (dl (be xs)).reverse := by rw [List.take_of_length_le (by rw [List.length_drop]; omega), hd0]
    rw [e5] at h5
    conv => cbv
    refine ⟨0, [], _, _, _, n5, _, .own _ 0 _ [] rfl rfl rfl rfl (by decide), .refl _, h5.src, by omega, by omega, ?_⟩
    intro a6 n6 c6 z6 hn6 hz6 hs6
    conv => cbv
    intro ρ R'' hle _ hpr
    exact ⟨a6, n6, c6, rfl, (hpr _ (List.mem_cons_self ..)).ri (by show n6 = _; rw [hn6, Nat.zero_add, h5.len]) hs6 rfl hz6 h5.wf, (hpr _ (List.mem_cons_self ..)).cap_ (by show (1 : Nat) ≠ 4096; decide) hs6⟩
  have cg : cmp .lss x (ofN n) = true := by rw [o, cmp_lss hA]; simp; omega
  simp (maxSteps := 10000000) only [cg]
  conv => cbv
  refine ix_ri h o i hi hlt ?_
  refine ld_u8 hA h (by omega) (by omega) ?_
  intro d hd hd0 hd1
  have hd' : xs[i]? = some d := by rw [getD_get (by omega), hd]; congr 2; omega
  conv => cbv
  by_cases hz : d = 0
  · have ce : cmp .eql d 0 = true := by rw [cmp_eql hA]; simp; omega
    simp (maxSteps := 10000000) only [ce]
    conv => cbv
    refine ⟨n - (i + 1), bin .add .i64 x 1, by omega, ⟨⟨rfl, rfl, trivial⟩, rfl, trivial, rfl, .refl _⟩, i + 1, by rw [hi, add_i64 hA (by omega)]; rfl, by omega, rfl, ?_⟩
    rw [← hb, drop_get hd', be_cons, hz]
    simp
  have ce : cmp .eql d 0 = false := by rw [cmp_eql hA]; simp; omega
  simp (maxSteps := 10000000) only [ce]
  conv => cbv
  have hd0 : xs.drop i = (dl (be xs)).reverse := by
    rw [← hb]
    refine be_dl (fun y hy => hby y (List.mem_of_mem_drop hy)) (.inr ?_)
    rw [drop_get hd']
    simpa using hz
  refine ⟨i, n, by rw [hi]; rfl, rfl, by omega, hc, ?_⟩
  intro a5 n5 c5 hn5 hc5 ha5
  have h5 := h.part' (l := i) (m := n) (by omega) (Nat.le_refl _) hn5 hc ha5
  have e5 : (xs.drop i).take (n - i) = (dl (be xs)).reverse := by rw [List.take_of_length_le (by rw [List.length_drop]; omega), hd0]
  rw [e5] at h5
  conv => cbv
  refine ⟨0, [], _, _, _, n5, _, .own _ 0 _ [] rfl rfl rfl rfl (by decide), .refl _, h5.src, by omega, by omega, ?_⟩
  intro a6 n6 c6 z6 hn6 hz6 hs6
  conv => cbv
  intro ρ R'' hle _ hpr
  exact ⟨a6, n6, c6, rfl, (hpr _ (List.mem_cons_self ..)).ri (by show n6 = _; rw [hn6, Nat.zero_add, h5.len]) hs6 rfl hz6 h5.wf, (hpr _ (List.mem_cons_self ..)).cap_ (by show (1 : Nat) ≠ 4096; decide) hs6⟩

structure Lo4 where
  i : Int
  l : Int
  a : Option Addr
  n : Nat
  c : Nat
  zs : List Value
  rs : List Row

set_option maxRecDepth 100000 in
set_option maxHeartbeats 1000000 in
/-- A great number over a small one. -/
theorem overP {P : Program} (hP : P = Tryd.prog) (R : RO) (a : Option Addr) (n c : Nat) (xs : List Int) (h : RI R .u8 a n xs) (hc : n ≤ c) (hn : n ≤ 10000) (B : Nat) (bi : Int) (hbi : bi = B) (hB : 1 ≤ B) (hBl : B < 281474976710656) :
    RetP P 14 [.slice a n c, .int .u64 bi] R fun R' r => ∃ a' n' c' l, r = .tuple #[.slice a' n' c', .int .u64 l] ∧ RI R' .u8 a' n' (dl (be xs / B)).reverse ∧ n' ≤ c' := by
  subst hP
  have hl := h.len
  have hby := By.of_wf h.wf
  refine retP_vc (fz := []) Tryd.func14 rfl (by decide) rfl ok14 ?_
  intro P bin cmp cnv neg com bnot beq ofN toN at_ sub_ scmp cat sget ssz ssub elem fld_ hP hA
  conv => cbv
  have o := ofN_ hA n
  refine ⟨Lo4, fun x => ⟨[(8, .v (.int .i64 x.i)), (7, .v (.int .u64 x.l)), (6, .v (.slice x.a x.n x.c)), (0, .v (.slice a n c)), (1, .v (.int .u64 bi))], R, [], 0, x.rs⟩,
    fun m x => ∃ (i q : Nat) (ys : List Int), x.i = i ∧ i ≤ n ∧ m = n - i ∧ x.l = (q : Nat) ∧ q < B ∧ Base1 x.rs [] x.a x.n x.c 5 1 x.zs ∧ x.zs = ints .u8 ys ∧ x.n = ys.length ∧ x.n = i ∧ By ys ∧ be ys * B + q = be (xs.take i) ∧ (x.n ≠ 0 → x.a.isSome = true),
    ⟨n, ⟨0, 0, none, 0, 0, [], []⟩, ⟨⟨rfl, rfl, rfl, rfl, rfl, trivial⟩, rfl, trivial, rfl, .refl _⟩, 0, 0, [], rfl, by omega, rfl, rfl, by omega, Base1.nil, rfl, rfl, rfl, (fun x hx => by cases hx), by simp [be, lev], fun e => absurd rfl e⟩, ?_⟩
  rintro m ⟨ii, l, a1, n1, c1, zs, rs⟩ ⟨i, q, ys, hi, hin, hm, hq, hqB, hb, hzs, hn1, hn1i, hyb, hyv, hsm⟩
  simp only at hi hq hb hzs hn1 hn1i hsm
  conv => cbv
  by_cases hlt : i < n
  case neg =>
    refine br_f (by rw [o, cmp_lss hA]; simp; omega) ?_
    conv => cbv
    have hv : be ys = be xs / B := by
      rw [List.take_of_length_le (by omega)] at hyv
      rw [← hyv, Nat.mul_comm, Nat.mul_add_div (by omega), Nat.div_eq_of_lt hqB, Nat.add_zero]
    rcases hb with ⟨rfl, rfl, rfl, rfl, rfl⟩ | rfl
    · have hy0 : ys = [] := List.eq_nil_of_length_eq_zero (by omega)
      have hr1 : RI R .u8 none 0 ys := by rw [hy0]; exact RI.nil
      refine (trimP hP R none 0 0 ys hr1 (Nat.le_refl _) (by omega)).callP rfl ?_
      rintro R2 _ hR2 ⟨a', n', c', rfl, hr, hc'⟩
      conv => cbv
      intro ρ R'' hle _ _
      exact ⟨a', n', c', l, rfl, by rw [← hv]; exact hr.le hle, hc'⟩
    · refine CallP.pub 0 rfl (fun R1 hR1 hp1 => ?_) ⟨_, by rw [hP]; exact Tryd.func13, by decide, rfl⟩
      have hr1 : RI R1 .u8 a1 n1 ys := hp1.ri hn1 hsm rfl hzs hyb.wf
      refine (trimP hP R1 a1 n1 c1 ys hr1 (hp1.cap_ (by show (1 : Nat) ≠ 4096; decide) hsm) (by omega)).callP rfl ?_
      rintro R2 _ hR2 ⟨a', n', c', rfl, hr, hc'⟩
      conv => cbv
      intro ρ R'' hle _ _
      exact ⟨a', n', c', l, rfl, by rw [← hv]; exact hr.le hle, hc'⟩
  refine br_t (by rw [o, cmp_lss hA]; simp; omega) ?_
  conv => cbv
  refine ix_ri h o i hi hlt ?_
  refine ld_u8 hA h (by omega) (by omega) ?_
  intro d hd hd0 hd1
  have hd' : xs[i]? = some d := by rw [getD_get (by omega), hd]; congr 2; omega
  obtain ⟨D, hD⟩ : ∃ D : Nat, d = D := ⟨d.toNat, by omega⟩
  conv => cbv
  have e1 : bin .add .u64 (bin .mul .u64 l 256) (cnv .u64 d) = ((q * 256 + D : Nat) : Int) := by
    have e2 : bin .mul .u64 l 256 = ((q * 256 : Nat) : Int) := by rw [hq, mul_u64 hA (by omega)]; omega
    rw [e2, cnv_u64 hA (by omega), hD, add_u64 hA (by omega)]
    omega
  have hqd : (q * 256 + D) / B < 256 := by
    rw [Nat.div_lt_iff_lt_mul (by omega)]
    have : (q + 1) * 256 ≤ B * 256 := Nat.mul_le_mul_right _ hqB
    omega
  refine ⟨by omega, ?_⟩
  have e3 : bin .quo .u64 (bin .add .u64 (bin .mul .u64 l 256) (cnv .u64 d)) bi = (((q * 256 + D) / B : Nat) : Int) := by
    rw [e1, hbi, quo_u64 hA (by omega) (by omega) (by omega)]
    exact (Int.natCast_ediv _ _).symm
  have e4 : cnv .u8 (bin .quo .u64 (bin .add .u64 (bin .mul .u64 l 256) (cnv .u64 d)) bi) = (((q * 256 + D) / B : Nat) : Int) := by
    rw [e3]
    have h5 : ∀ Q : Nat, Q < 256 → cnv .u8 (Q : Int) = (Q : Int) := fun Q hQ => cnv_u8 hA (by omega)
    exact h5 _ hqd
  refine ⟨n1, zs, _, _, _, 1, [.int .u8 (cnv .u8 (bin .quo .u64 (bin .add .u64 (bin .mul .u64 l 256) (cnv .u64 d)) bi))], hb.base, .refl _, .own _ _ _ _ _ _ rfl rfl rfl (by simp [Value.oneCell']), by omega, by omega, ?_⟩
  intro a' n' c' zs' hn' hz' hs'
  conv => cbv
  refine ⟨by omega, ?_⟩
  have e5 : bin .rem .u64 (bin .add .u64 (bin .mul .u64 l 256) (cnv .u64 d)) bi = (((q * 256 + D) % B : Nat) : Int) := by
    rw [e1, hbi, rem_u64 hA (by omega)]
    exact (Int.natCast_emod _ _).symm
  refine ⟨n - (i + 1), ⟨bin .add .i64 ii 1, bin .rem .u64 (bin .add .u64 (bin .mul .u64 l 256) (cnv .u64 d)) bi, a', n', c', zs', _⟩, by omega, ⟨⟨rfl, rfl, rfl, rfl, rfl, trivial⟩, rfl, trivial, rfl, .refl _⟩, i + 1, (q * 256 + D) % B, ys ++ [(((q * 256 + D) / B : Nat) : Int)], by show bin .add .i64 ii 1 = _; rw [hi, add_i64 hA (by omega)]; rfl, by omega, rfl, e5, Nat.mod_lt _ (by omega), Base1.row, ?_, ?_, ?_, ?_, ?_, hs'⟩
  · show zs' = _
    rw [hz', hzs, e4, ← ints_app]
    rfl
  · show n' = _
    rw [hn', hn1, List.length_append]
    rfl
  · show n' = _
    omega
  · intro x hx
    rcases List.mem_append.1 hx with hx | hx
    · exact hyb x hx
    · simp only [List.mem_cons, List.not_mem_nil, or_false] at hx
      rw [hx]
      have h6 : ∀ Q : Nat, Q < 256 → 0 ≤ (Q : Int) ∧ (Q : Int) ≤ 255 := fun Q hQ => by omega
      exact h6 _ hqd
  · rw [be_app, be_take hd', ← hyv, hD, Int.toNat_natCast, Int.toNat_natCast]
    have h1 := Nat.div_add_mod (q * 256 + D) B
    rw [Nat.add_mul, Nat.mul_comm ((q * 256 + D) / B) B, Nat.mul_assoc]
    rw [Nat.add_mul, Nat.mul_assoc (be ys) B 256, Nat.mul_comm B 256, ← Nat.mul_assoc (be ys) 256 B, Nat.mul_comm (be ys) 256, Nat.mul_assoc]
    omega
end Go.Proofs.YtepfbdfbfimefaaDoor.Co
end
section
namespace Go.Proofs.YtepfbdfbfimefaaDoor.Tync
open Go Go.Se Go.Proofs

/-- int -/
def y3 : Ty := ⟨.int .i64, 1, false, .int .i64 0, 8⟩
theorem ty3 : tyOf Tryd.prog 3 = some y3 := by kernel_rfl
/-- uint8 -/
def y5 : Ty := ⟨.int .u8, 1, false, .int .u8 0, 1⟩
theorem ty5 : tyOf Tryd.prog 5 = some y5 := by kernel_rfl
/-- []uint8 -/
def y22 : Ty := ⟨.slc 5, 1, false, .slice none 0 0, 24⟩
theorem ty22 : tyOf Tryd.prog 22 = some y22 := by kernel_rfl
/-- uint64 -/
def y33 : Ty := ⟨.int .u64, 1, false, .int .u64 0, 8⟩
theorem ty33 : tyOf Tryd.prog 33 = some y33 := by kernel_rfl

/-- function 33: pub-mintmark/spec.timesSmall -/
def tys33 : Nat → Option Ty := fun t => find [(22, y22), (5, y5), (3, y3), (33, y33)] t
theorem ok33 : TysOk Tryd.prog tys33 := tysOk_of ⟨ty22, ty5, ty3, ty33, trivial⟩
end Go.Proofs.YtepfbdfbfimefaaDoor.Tync
end
section
set_option linter.unusedSimpArgs false
set_option linter.unusedVariables false
namespace Go.Proofs.YtepfbdfbfimefaaDoor.Co
open Go Go.Se Go.Proofs Go.Proofs.YtepfbdfbfimefaaDoor.Ht Go.Proofs.YtepfbdfbfimefaaDoor.Tync

theorem lev_get : ∀ {ds : List Int}, By ds → ∀ (i : Nat) (d : Int), ds[i]? = some d → d = ((lev ds / 256 ^ i % 256 : Nat) : Int)
  | d :: ds, h, 0, x, e => by
    simp at e
    subst e
    have hd := h d (List.mem_cons_self ..)
    rw [lev, Nat.pow_zero, Nat.div_one]
    omega
  | d :: ds, h, i + 1, x, e => by
    have hd := h d (List.mem_cons_self ..)
    have ih := lev_get (ds := ds) (fun x hx => h x (List.mem_cons_of_mem _ hx)) i x (by simpa using e)
    rw [lev, Nat.pow_succ, Nat.mul_comm (256 ^ i), ← Nat.div_div_eq_div_mul, show (d.toNat + 256 * lev ds) / 256 = lev ds by omega]
    exact ih

theorem be_get {xs : List Int} (h : By xs) {p : Nat} (hp : p < xs.length) {d : Int} (e : xs[xs.length - 1 - p]? = some d) : d = ((be xs / 256 ^ p % 256 : Nat) : Int) := by
  refine lev_get (ds := xs.reverse) (fun x hx => h x (List.mem_reverse.1 hx)) p d ?_
  rw [List.getElem?_reverse hp]
  exact e

theorem be_set : ∀ {ys : List Int} (i : Nat) (e : Int), ys[i]? = some 0 → 0 ≤ e → be (ys.set i e) = be ys + e.toNat * 256 ^ (ys.length - 1 - i)
  | y :: t, 0, e, h, he => by
    simp at h
    subst h
    rw [List.set_cons_zero, be_cons, be_cons]
    simp
    omega
  | y :: t, i + 1, e, h, he => by
    have ih := be_set (ys := t) i e (by simpa using h) he
    rw [List.set_cons_succ, be_cons, be_cons, List.length_set, ih, List.length_cons, show t.length + 1 - 1 - (i + 1) = t.length - 1 - i by omega]
    omega

theorem be_zero : ∀ n : Nat, be (List.replicate n 0) = 0
  | 0 => rfl
  | n + 1 => by rw [List.replicate_succ, be_cons, be_zero n]; simp

structure Lt4 where
  i : Int
  q : Int
  zs : List Value

set_option maxRecDepth 100000 in
set_option maxHeartbeats 2000000 in
theorem timesP {P : Program} (hP : P = Tryd.prog) (R : RO) (a : Option Addr) (n c : Nat) (xs : List Int) (h : RI R .u8 a n xs) (hc : n ≤ c) (hn : n ≤ 10000) (B : Nat) (bi : Int) (hbi : bi = B) (hBl : B < 1099511627776) :
    RetP P 33 [.slice a n c, .int .u64 bi] R fun R' r => ∃ a' n' c', r = .slice a' n' c' ∧ RI R' .u8 a' n' (dl (be xs * B)).reverse ∧ n' ≤ c' := by
  subst hP
  have hl := h.len
  have hby := By.of_wf h.wf
  have hX := be_lt hby
  rw [← hl] at hX
  refine retP_vc (fz := []) Tryd.func33 rfl (by decide) rfl ok33 ?_
  intro P bin cmp cnv neg com bnot beq ofN toN at_ sub_ scmp cat sget ssz ssub elem fld_ hP hA
  conv => cbv
  have o := ofN_ hA n
  have e8 : bin .add .i64 (ofN n) 8 = ((n + 8 : Nat) : Int) := by rw [o, add_i64 hA (by omega)]; rfl
  refine ⟨by rw [e8]; omega, by rw [e8]; omega, by rw [e8]; omega, by rw [e8]; omega, ?_⟩
  intro ab nb cb zb hnb hcb hzb
  rw [e8] at hnb hcb
  obtain ⟨W, hW⟩ : ∃ W, W = n + 8 := ⟨_, rfl⟩
  obtain rfl : W = nb := by omega
  obtain rfl : W = cb := by omega
  rw [zeros] at hzb
  have oW := ofN_ hA W
  have es : bin .sub .i64 (ofN W) 1 = (W : Int) - 1 := by rw [oW]; exact sub_i64 hA (by omega)
  conv => cbv
  refine ⟨Lt4, fun x => ⟨[(7, .v (.int .i64 x.i)), (6, .v (.int .u64 x.q)), (5, .v (.slice (some ab) W W)), (0, .v (.slice a n c)), (1, .v (.int .u64 bi))], R, [], 0, [⟨some ab, W, W, 5, 1, x.zs⟩]⟩,
    fun m x => ∃ (p q : Nat) (ys : List Int), x.i = (W : Int) - 1 - p ∧ p ≤ W ∧ m = W - p ∧ x.q = (q : Nat) ∧ q ≤ B ∧ x.zs = ints .u8 ys ∧ ys.length = W ∧ By ys ∧ be ys + q * 256 ^ p = be xs % 256 ^ p * B ∧ ∀ j, j < W - p → ys[j]? = some 0,
    ⟨W, ⟨bin .sub .i64 (ofN W) 1, 0, zb⟩, ⟨⟨rfl, rfl, rfl, rfl, rfl, trivial⟩, rfl, trivial, rfl, .refl _⟩, 0, 0, _, by show bin .sub .i64 (ofN W) 1 = _; rw [es]; simp, by omega, rfl, rfl, by omega, hzb, by simp, (fun x hx => by rw [List.eq_of_mem_replicate hx]; omega), by rw [be_zero]; simp [Nat.mod_one], fun j hj => by rw [List.getElem?_replicate, if_pos (by omega)]⟩, ?_⟩
  rintro m ⟨ii, qi, zs⟩ ⟨p, q, ys, hi, hp, hm, hq, hqB, hzs, hyl, hyb, hyv, hy0⟩
  simp only at hi hq hzs
  conv => cbv
  by_cases hlt : p < W
  case neg =>
    refine br_f (by rw [cmp_geq hA]; simp; omega) ?_
    conv => cbv
    have hv : be ys = be xs * B := by
      have hXW : be xs < 256 ^ p := Nat.lt_of_lt_of_le hX (Nat.pow_le_pow_right (by decide) (by omega))
      rw [Nat.mod_eq_of_lt hXW] at hyv
      have h1 : be xs * B < 256 ^ p := by
        have h2 : 256 ^ p = 256 ^ n * 18446744073709551616 := by rw [show p = n + 8 by omega, Nat.pow_add]
        rw [h2]
        exact Nat.mul_lt_mul'' hX (by omega)
      have h3 : q = 0 := by
        refine Nat.eq_zero_of_not_pos fun h4 => ?_
        have := Nat.le_mul_of_pos_left (256 ^ p) h4
        omega
      rw [h3] at hyv
      omega
    refine CallP.pub 0 rfl (fun R1 hR1 hp1 => ?_) ⟨_, by rw [hP]; exact Tryd.func13, by decide, rfl⟩
    have hr1 : RI R1 .u8 (some ab) W ys := hp1.ri hyl.symm (fun _ => rfl) rfl hzs hyb.wf
    refine (trimP hP R1 (some ab) W W ys hr1 (Nat.le_refl _) (by omega)).callP rfl ?_
    rintro R2 _ hR2 ⟨a', n', c', rfl, hr, hc'⟩
    conv => cbv
    intro ρ R'' hle _ _
    exact ⟨a', n', c', rfl, by rw [← hv]; exact hr.le hle, hc'⟩
  refine br_t (by rw [cmp_geq hA]; simp; omega) ?_
  conv => cbv
  have ek : bin .sub .i64 ii 8 = (n : Int) - 1 - p := by rw [hi, sub_i64 hA (by omega)]; omega
  have hyi : ys[W - 1 - p]? = some 0 := hy0 _ (by omega)
  have hii : ii.toNat = W - 1 - p := by omega
  have ei : bin .sub .i64 ii 1 = (W : Int) - 1 - (p + 1 : Nat) := by rw [hi, sub_i64 hA (by omega)]; omega
  have step : ∀ (C : Nat) (ci : Int), ci = (C : Nat) → C ≤ B * 256 → be xs % 256 ^ (p + 1) * B = be xs % 256 ^ p * B + (C - q) * 256 ^ p → q ≤ C → ∀ zs' : List Value, zs' = zs.take (W - 1 - p) ++ [Value.int .u8 (cnv .u8 (bin .rem .u64 ci 256))] ++ zs.drop (W - 1 - p + 1) →
      ∃ (p' q' : Nat) (ys' : List Int), bin .sub .i64 ii 1 = (W : Int) - 1 - p' ∧ p' ≤ W ∧ W - (p + 1) = W - p' ∧ bin .quo .u64 ci 256 = (q' : Nat) ∧ q' ≤ B ∧ zs' = ints .u8 ys' ∧ ys'.length = W ∧ By ys' ∧ be ys' + q' * 256 ^ p' = be xs % 256 ^ p' * B ∧ ∀ j, j < W - p' → ys'[j]? = some 0 := fun C ci hci hCB hX2 hqC zs' hz' => by
    have e1 : cnv .u8 (bin .rem .u64 ci 256) = ((C % 256 : Nat) : Int) := by
      have e2 : bin .rem .u64 ci 256 = ((C % 256 : Nat) : Int) := by rw [hci, rem_u64 hA (by omega)]; omega
      rw [e2]
      exact cnv_u8 hA (by omega)
    have e3 : bin .quo .u64 ci 256 = ((C / 256 : Nat) : Int) := by rw [hci, quo_u64 hA (by omega) (by omega) (by decide)]; omega
    refine ⟨p + 1, C / 256, ys.set (W - 1 - p) ((C % 256 : Nat) : Int), ei, by omega, rfl, e3, by omega, ?_, by simp [hyl], ?_, ?_, ?_⟩
    · rw [hz', hzs, e1]
      exact ints_set _ _ _ _ (by omega)
    · intro x hx
      rcases List.mem_or_eq_of_mem_set hx with hx | hx
      · exact hyb x hx
      · rw [hx]; omega
    · rw [be_set _ _ hyi (by omega), hyl, show W - 1 - (W - 1 - p) = p by omega, Int.toNat_natCast, hX2, ← hyv, Nat.pow_succ]
      have h4 : C = 256 * (C / 256) + C % 256 := by omega
      have h5 : (C - q) * 256 ^ p + q * 256 ^ p = C * 256 ^ p := by rw [← Nat.add_mul]; congr 1; omega
      have h6 : C % 256 * 256 ^ p + C / 256 * (256 ^ p * 256) = C * 256 ^ p := by
        rw [Nat.mul_comm (256 ^ p) 256, ← Nat.mul_assoc, ← Nat.add_mul]
        congr 1
        omega
      omega
    · intro j hj
      rw [List.getElem?_set, if_neg (by omega)]
      exact hy0 j (by omega)
  have hpw : be xs % 256 ^ (p + 1) = be xs % 256 ^ p + 256 ^ p * (be xs / 256 ^ p % 256) := by rw [Nat.pow_succ, Nat.mod_mul]
  by_cases hpn : p < n
  · refine br_t (by rw [ek, cmp_geq hA]; simp; omega) ?_
    conv => cbv
    refine ix_ri h o (n - 1 - p) (by rw [ek]; omega) (by omega) ?_
    refine ld_u8 hA h (by rw [ek]; omega) (by rw [ek]; omega) ?_
    intro d hd hd0 hd1
    rw [ek] at hd
    have hd' : xs[xs.length - 1 - p]? = some d := by rw [getD_get (by omega), hd]; congr 2; omega
    have hdv := be_get hby (by omega) hd'
    obtain ⟨D, hD⟩ : ∃ D, D = be xs / 256 ^ p % 256 := ⟨_, rfl⟩
    rw [← hD] at hdv hpw
    conv => cbv
    have hDB : D * B ≤ 255 * B := Nat.mul_le_mul_right _ (by omega)
    have ec : bin .add .u64 qi (bin .mul .u64 (cnv .u64 d) bi) = ((q + D * B : Nat) : Int) := by
      have e1 : bin .mul .u64 (cnv .u64 d) bi = ((D * B : Nat) : Int) := by
        rw [cnv_u64 hA (by omega), hdv, hbi, mul_u64 hA ⟨by rw [← Int.natCast_mul]; exact Int.natCast_nonneg _, by rw [← Int.natCast_mul]; omega⟩, Int.natCast_mul]
      rw [e1, hq, add_u64 hA (by omega)]
      omega
    refine ⟨by decide, ?_⟩
    refine ⟨by omega, by rw [oW]; omega, rfl, ?_⟩
    refine ⟨0, _, ab, W - 1 - p, rfl, rfl, by rw [elem_is hA]; show ab.add (ii.toNat * 1) = _; rw [Nat.mul_one, hii], by show W - 1 - p + 1 ≤ zs.length; rw [hzs, ints_len, hyl]; omega, ?_⟩
    intro zs' hzs'
    conv => cbv
    refine ⟨by decide, ?_⟩
    refine ⟨W - (p + 1), ⟨bin .sub .i64 ii 1, bin .quo .u64 (bin .add .u64 qi (bin .mul .u64 (cnv .u64 d) bi)) 256, zs'⟩, by omega, ⟨⟨rfl, rfl, rfl, rfl, rfl, trivial⟩, rfl, trivial, rfl, .refl _⟩, step (q + D * B) _ ec (by omega) ?_ (by omega) zs' hzs'⟩
    rw [hpw, Nat.add_mul, Nat.add_sub_cancel_left, Nat.mul_comm (256 ^ p) D, Nat.mul_assoc, Nat.mul_comm (256 ^ p) B, ← Nat.mul_assoc]
  · refine br_f (by rw [ek, cmp_geq hA]; simp; omega) ?_
    conv => cbv
    refine ⟨by decide, ?_⟩
    refine ⟨by omega, by rw [oW]; omega, rfl, ?_⟩
    refine ⟨0, _, ab, W - 1 - p, rfl, rfl, by rw [elem_is hA]; show ab.add (ii.toNat * 1) = _; rw [Nat.mul_one, hii], by show W - 1 - p + 1 ≤ zs.length; rw [hzs, ints_len, hyl]; omega, ?_⟩
    intro zs' hzs'
    conv => cbv
    refine ⟨by decide, ?_⟩
    refine ⟨W - (p + 1), ⟨bin .sub .i64 ii 1, bin .quo .u64 qi 256, zs'⟩, by omega, ⟨⟨rfl, rfl, rfl, rfl, rfl, trivial⟩, rfl, trivial, rfl, .refl _⟩, step q _ hq (by omega) ?_ (Nat.le_refl _) zs' hzs'⟩
    have hD0 : be xs / 256 ^ p = 0 := Nat.div_eq_of_lt (Nat.lt_of_lt_of_le hX (Nat.pow_le_pow_right (by decide) (by omega)))
    rw [hpw, hD0, Nat.sub_self]
    simp
end Go.Proofs.YtepfbdfbfimefaaDoor.Co
end
section
namespace Go.Proofs.YtepfbdfbfimefaaDoor.Tyee
open Go Go.Se Go.Proofs

/-- int64 -/
def y2 : Ty := ⟨.int .i64, 1, false, .int .i64 0, 8⟩
theorem ty2 : tyOf Tryd.prog 2 = some y2 := by kernel_rfl
/-- int -/
def y3 : Ty := ⟨.int .i64, 1, false, .int .i64 0, 8⟩
theorem ty3 : tyOf Tryd.prog 3 = some y3 := by kernel_rfl
/-- bool -/
def y4 : Ty := ⟨.bool, 1, false, .bool false, 1⟩
theorem ty4 : tyOf Tryd.prog 4 = some y4 := by kernel_rfl
/-- uint8 -/
def y5 : Ty := ⟨.int .u8, 1, false, .int .u8 0, 1⟩
theorem ty5 : tyOf Tryd.prog 5 = some y5 := by kernel_rfl
/-- string -/
def y9 : Ty := ⟨.str, 1, false, .string ByteArray.empty, 16⟩
theorem ty9 : tyOf Tryd.prog 9 = some y9 := by kernel_rfl
/-- []uint8 -/
def y22 : Ty := ⟨.slc 5, 1, false, .slice none 0 0, 24⟩
theorem ty22 : tyOf Tryd.prog 22 = some y22 := by kernel_rfl
/-- uint64 -/
def y33 : Ty := ⟨.int .u64, 1, false, .int .u64 0, 8⟩
theorem ty33 : tyOf Tryd.prog 33 = some y33 := by kernel_rfl
/-- big.nat -/
def y48 : Ty := ⟨.slc 68, 1, false, .slice none 0 0, 24⟩
theorem ty48 : tyOf Tryd.prog 48 = some y48 := by kernel_rfl
/-- big.Int -/
def y50 : Ty := ⟨.stc [(0, 4), (1, 48)], 2, true, .agg #[.bool false, .slice none 0 0], 32⟩
theorem ty50 : tyOf Tryd.prog 50 = some y50 := by kernel_rfl
/-- uint32 -/
def y68 : Ty := ⟨.int .u32, 1, false, .int .u32 0, 4⟩
theorem ty68 : tyOf Tryd.prog 68 = some y68 := by kernel_rfl

/-- function 21: (*pub-mintmark/pub/smallbig.Int).SetBytes -/
def tys21 : Nat → Option Ty := fun t => find [(22, y22), (5, y5), (3, y3), (48, y48), (68, y68), (50, y50), (4, y4)] t
theorem ok21 : TysOk Tryd.prog tys21 := tysOk_of ⟨ty22, ty5, ty3, ty48, ty68, ty50, ty4, trivial⟩

/-- function 23: (*pub-mintmark/pub/smallbig.Int).DivMod -/
def tys23 : Nat → Option Ty := fun t => find [(50, y50), (4, y4), (48, y48), (68, y68)] t
theorem ok23 : TysOk Tryd.prog tys23 := tysOk_of ⟨ty50, ty4, ty48, ty68, trivial⟩

/-- function 26: pub-mintmark/pub/smallbig.NewInt -/
def tys26 : Nat → Option Ty := fun t => find [(50, y50)] t
theorem ok26 : TysOk Tryd.prog tys26 := tysOk_of ⟨ty50, trivial⟩

/-- function 27: (*pub-mintmark/pub/smallbig.Int).Mul -/
def tys27 : Nat → Option Ty := fun t => find [(50, y50), (4, y4), (48, y48), (68, y68), (3, y3)] t
theorem ok27 : TysOk Tryd.prog tys27 := tysOk_of ⟨ty50, ty4, ty48, ty68, ty3, trivial⟩

/-- function 28: (*pub-mintmark/pub/smallbig.Int).SetUint64 -/
def tys28 : Nat → Option Ty := fun t => find [(50, y50), (4, y4), (48, y48), (68, y68)] t
theorem ok28 : TysOk Tryd.prog tys28 := tysOk_of ⟨ty50, ty4, ty48, ty68, trivial⟩

/-- function 29: (*pub-mintmark/pub/smallbig.Int).Add -/
def tys29 : Nat → Option Ty := fun t => find [(50, y50), (4, y4), (48, y48), (68, y68)] t
theorem ok29 : TysOk Tryd.prog tys29 := tysOk_of ⟨ty50, ty4, ty48, ty68, trivial⟩

/-- function 30: (*pub-mintmark/pub/smallbig.Int).Bytes -/
def tys30 : Nat → Option Ty := fun t => find [(50, y50), (4, y4), (48, y48), (68, y68), (3, y3), (22, y22), (5, y5)] t
theorem ok30 : TysOk Tryd.prog tys30 := tysOk_of ⟨ty50, ty4, ty48, ty68, ty3, ty22, ty5, trivial⟩

/-- function 37: (*pub-mintmark/pub/smallbig.Int).QuoRem -/
def tys37 : Nat → Option Ty := fun t => find [(50, y50), (4, y4), (48, y48), (68, y68), (3, y3)] t
theorem ok37 : TysOk Tryd.prog tys37 := tysOk_of ⟨ty50, ty4, ty48, ty68, ty3, trivial⟩

/-- function 41: (*pub-mintmark/pub/smallbig.Int).SetInt64 -/
def tys41 : Nat → Option Ty := fun t => find [(2, y2), (33, y33), (50, y50), (4, y4), (48, y48), (68, y68)] t
theorem ok41 : TysOk Tryd.prog tys41 := tysOk_of ⟨ty2, ty33, ty50, ty4, ty48, ty68, trivial⟩

/-- function 44: (*pub-mintmark/pub/smallbig.Int).sum -/
def tys44 : Nat → Option Ty := fun t => find [(50, y50), (4, y4), (48, y48), (68, y68), (3, y3)] t
theorem ok44 : TysOk Tryd.prog tys44 := tysOk_of ⟨ty50, ty4, ty48, ty68, ty3, trivial⟩

/-- function 45: (*pub-mintmark/pub/smallbig.Int).FillBytes -/
def tys45 : Nat → Option Ty := fun t => find [(22, y22), (5, y5), (50, y50), (4, y4), (48, y48), (68, y68), (3, y3), (9, y9)] t
theorem ok45 : TysOk Tryd.prog tys45 := tysOk_of ⟨ty22, ty5, ty50, ty4, ty48, ty68, ty3, ty9, trivial⟩
end Go.Proofs.YtepfbdfbfimefaaDoor.Tyee
end
