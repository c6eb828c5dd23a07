/- Great numbers by the reference: times a small one, compared. -/
import Derived.Test.YtepfbdfbfimefaaDoorNba
import Derived.Test.YtepfbdfbfimefaaDoorCoc
import Derived.Test.YtepfbdfbfimefaaDoorSl
import Derived.Test.YtepfbdfbfimefaaDoorProg
import Derived.KernelRfl
-- merged
/- The types that some functions name, as the evaluator wants them. Printed by a program of my own (seatgen.py). -/
namespace Go.Proofs.YtepfbdfbfimefaaDoor.Tync
open Go Go.Se Go.Proofs

/-- int -/
def y3 : Ty := ⟨.int .i64, 1, false, .int .i64 0, 8⟩
theorem ty3 : tyOf Tryd.prog 3 = some y3 := by kernel_rfl
/-- uint8 -/
def y5 : Ty := ⟨.int .u8, 1, false, .int .u8 0, 1⟩
theorem ty5 : tyOf Tryd.prog 5 = some y5 := by kernel_rfl
/-- []uint8 -/
def y22 : Ty := ⟨.slc 5, 1, false, .slice none 0 0, 24⟩
theorem ty22 : tyOf Tryd.prog 22 = some y22 := by kernel_rfl
/-- uint64 -/
def y33 : Ty := ⟨.int .u64, 1, false, .int .u64 0, 8⟩
theorem ty33 : tyOf Tryd.prog 33 = some y33 := by kernel_rfl

/-- function 33: pub-mintmark/spec.timesSmall -/
def tys33 : Nat → Option Ty := fun t => find [(22, y22), (5, y5), (3, y3), (33, y33)] t
theorem ok33 : TysOk Tryd.prog tys33 := tysOk_of ⟨ty22, ty5, ty3, ty33, trivial⟩
end Go.Proofs.YtepfbdfbfimefaaDoor.Tync
set_option linter.unusedSimpArgs false
set_option linter.unusedVariables false
namespace Go.Proofs.YtepfbdfbfimefaaDoor.Co
open Go Go.Se Go.Proofs Go.Proofs.YtepfbdfbfimefaaDoor.Ht Go.Proofs.YtepfbdfbfimefaaDoor.Tync

theorem lev_get : ∀ {ds : List Int}, By ds → ∀ (i : Nat) (d : Int), ds[i]? = some d → d = ((lev ds / 256 ^ i % 256 : Nat) : Int)
  | d :: ds, h, 0, x, e => by
    simp at e
    subst e
    have hd := h d (List.mem_cons_self ..)
    rw [lev, Nat.pow_zero, Nat.div_one]
    omega
  | d :: ds, h, i + 1, x, e => by
    have hd := h d (List.mem_cons_self ..)
    have ih := lev_get (ds := ds) (fun x hx => h x (List.mem_cons_of_mem _ hx)) i x (by simpa using e)
    rw [lev, Nat.pow_succ, Nat.mul_comm (256 ^ i), ← Nat.div_div_eq_div_mul, show (d.toNat + 256 * lev ds) / 256 = lev ds by omega]
    exact ih

theorem be_get {xs : List Int} (h : By xs) {p : Nat} (hp : p < xs.length) {d : Int} (e : xs[xs.length - 1 - p]? = some d) : d = ((be xs / 256 ^ p % 256 : Nat) : Int) := by
  refine lev_get (ds := xs.reverse) (fun x hx => h x (List.mem_reverse.1 hx)) p d ?_
  rw [List.getElem?_reverse hp]
  exact e

theorem be_set : ∀ {ys : List Int} (i : Nat) (e : Int), ys[i]? = some 0 → 0 ≤ e → be (ys.set i e) = be ys + e.toNat * 256 ^ (ys.length - 1 - i)
  | y :: t, 0, e, h, he => by
    simp at h
    subst h
    rw [List.set_cons_zero, be_cons, be_cons]
    simp
    omega
  | y :: t, i + 1, e, h, he => by
    have ih := be_set (ys := t) i e (by simpa using h) he
    rw [List.set_cons_succ, be_cons, be_cons, List.length_set, ih, List.length_cons, show t.length + 1 - 1 - (i + 1) = t.length - 1 - i by omega]
    omega

theorem be_zero : ∀ n : Nat, be (List.replicate n 0) = 0
  | 0 => rfl
  | n + 1 => by rw [List.replicate_succ, be_cons, be_zero n]; simp

structure Lt4 where
  i : Int
  q : Int
  zs : List Value

set_option maxRecDepth 100000 in
set_option maxHeartbeats 2000000 in
theorem timesP {P : Program} (hP : P = Tryd.prog) (R : RO) (a : Option Addr) (n c : Nat) (xs : List Int) (h : RI R .u8 a n xs) (hc : n ≤ c) (hn : n ≤ 10000) (B : Nat) (bi : Int) (hbi : bi = B) (hBl : B < 1099511627776) :
    RetP P 33 [.slice a n c, .int .u64 bi] R fun R' r => ∃ a' n' c', r = .slice a' n' c' ∧ RI R' .u8 a' n' (dl (be xs * B)).reverse ∧ n' ≤ c' := by
  subst hP
  have hl := h.len
  have hby := By.of_wf h.wf
  have hX := be_lt hby
  rw [← hl] at hX
  refine retP_vc (fz := []) Tryd.func33 rfl (by decide) rfl ok33 ?_
  intro P bin cmp cnv neg com bnot beq ofN toN at_ sub_ scmp cat sget ssz ssub elem fld_ hP hA
  conv => cbv
  have o := ofN_ hA n
  have e8 : bin .add .i64 (ofN n) 8 = ((n + 8 : Nat) : Int) := by rw [o, add_i64 hA (by omega)]; rfl
  refine ⟨by rw [e8]; omega, by rw [e8]; omega, by rw [e8]; omega, by rw [e8]; omega, ?_⟩
  intro ab nb cb zb hnb hcb hzb
  rw [e8] at hnb hcb
  obtain ⟨W, hW⟩ : ∃ W, W = n + 8 := ⟨_, rfl⟩
  obtain rfl : W = nb := by omega
  obtain rfl : W = cb := by omega
  rw [zeros] at hzb
  have oW := ofN_ hA W
  have es : bin .sub .i64 (ofN W) 1 = (W : Int) - 1 := by rw [oW]; exact sub_i64 hA (by omega)
  conv => cbv
  refine ⟨Lt4, fun x => ⟨[(7, .v (.int .i64 x.i)), (6, .v (.int .u64 x.q)), (5, .v (.slice (some ab) W W)), (0, .v (.slice a n c)), (1, .v (.int .u64 bi))], R, [], 0, [⟨some ab, W, W, 5, 1, x.zs⟩]⟩,
    fun m x => ∃ (p q : Nat) (ys : List Int), x.i = (W : Int) - 1 - p ∧ p ≤ W ∧ m = W - p ∧ x.q = (q : Nat) ∧ q ≤ B ∧ x.zs = ints .u8 ys ∧ ys.length = W ∧ By ys ∧ be ys + q * 256 ^ p = be xs % 256 ^ p * B ∧ ∀ j, j < W - p → ys[j]? = some 0,
    ⟨W, ⟨bin .sub .i64 (ofN W) 1, 0, zb⟩, ⟨⟨rfl, rfl, rfl, rfl, rfl, trivial⟩, rfl, trivial, rfl, .refl _⟩, 0, 0, _, by show bin .sub .i64 (ofN W) 1 = _; rw [es]; simp, by omega, rfl, rfl, by omega, hzb, by simp, (fun x hx => by rw [List.eq_of_mem_replicate hx]; omega), by rw [be_zero]; simp [Nat.mod_one], fun j hj => by rw [List.getElem?_replicate, if_pos (by omega)]⟩, ?_⟩
  rintro m ⟨ii, qi, zs⟩ ⟨p, q, ys, hi, hp, hm, hq, hqB, hzs, hyl, hyb, hyv, hy0⟩
  simp only at hi hq hzs
  conv => cbv
  by_cases hlt : p < W
  case neg =>
    refine br_f (by rw [cmp_geq hA]; simp; omega) ?_
    conv => cbv
    have hv : be ys = be xs * B := by
      have hXW : be xs < 256 ^ p := Nat.lt_of_lt_of_le hX (Nat.pow_le_pow_right (by decide) (by omega))
      rw [Nat.mod_eq_of_lt hXW] at hyv
      have h1 : be xs * B < 256 ^ p := by
        have h2 : 256 ^ p = 256 ^ n * 18446744073709551616 := by rw [show p = n + 8 by omega, Nat.pow_add]
        rw [h2]
        exact Nat.mul_lt_mul'' hX (by omega)
      have h3 : q = 0 := by
        refine Nat.eq_zero_of_not_pos fun h4 => ?_
        have := Nat.le_mul_of_pos_left (256 ^ p) h4
        omega
      rw [h3] at hyv
      omega
    refine CallP.pub 0 rfl (fun R1 hR1 hp1 => ?_) ⟨_, by rw [hP]; exact Tryd.func13, by decide, rfl⟩
    have hr1 : RI R1 .u8 (some ab) W ys := hp1.ri hyl.symm (fun _ => rfl) rfl hzs hyb.wf
    refine (trimP hP R1 (some ab) W W ys hr1 (Nat.le_refl _) (by omega)).callP rfl ?_
    rintro R2 _ hR2 ⟨a', n', c', rfl, hr, hc'⟩
    conv => cbv
    intro ρ R'' hle _ _
    exact ⟨a', n', c', rfl, by rw [← hv]; exact hr.le hle, hc'⟩
  refine br_t (by rw [cmp_geq hA]; simp; omega) ?_
  conv => cbv
  have ek : bin .sub .i64 ii 8 = (n : Int) - 1 - p := by rw [hi, sub_i64 hA (by omega)]; omega
  have hyi : ys[W - 1 - p]? = some 0 := hy0 _ (by omega)
  have hii : ii.toNat = W - 1 - p := by omega
  have ei : bin .sub .i64 ii 1 = (W : Int) - 1 - (p + 1 : Nat) := by rw [hi, sub_i64 hA (by omega)]; omega
  have step : ∀ (C : Nat) (ci : Int), ci = (C : Nat) → C ≤ B * 256 → be xs % 256 ^ (p + 1) * B = be xs % 256 ^ p * B + (C - q) * 256 ^ p → q ≤ C → ∀ zs' : List Value, zs' = zs.take (W - 1 - p) ++ [Value.int .u8 (cnv .u8 (bin .rem .u64 ci 256))] ++ zs.drop (W - 1 - p + 1) →
      ∃ (p' q' : Nat) (ys' : List Int), bin .sub .i64 ii 1 = (W : Int) - 1 - p' ∧ p' ≤ W ∧ W - (p + 1) = W - p' ∧ bin .quo .u64 ci 256 = (q' : Nat) ∧ q' ≤ B ∧ zs' = ints .u8 ys' ∧ ys'.length = W ∧ By ys' ∧ be ys' + q' * 256 ^ p' = be xs % 256 ^ p' * B ∧ ∀ j, j < W - p' → ys'[j]? = some 0 := fun C ci hci hCB hX2 hqC zs' hz' => by
    have e1 : cnv .u8 (bin .rem .u64 ci 256) = ((C % 256 : Nat) : Int) := by
      have e2 : bin .rem .u64 ci 256 = ((C % 256 : Nat) : Int) := by rw [hci, rem_u64 hA (by omega)]; omega
      rw [e2]
      exact cnv_u8 hA (by omega)
    have e3 : bin .quo .u64 ci 256 = ((C / 256 : Nat) : Int) := by rw [hci, quo_u64 hA (by omega) (by omega) (by decide)]; omega
    refine ⟨p + 1, C / 256, ys.set (W - 1 - p) ((C % 256 : Nat) : Int), ei, by omega, rfl, e3, by omega, ?_, by simp [hyl], ?_, ?_, ?_⟩
    · rw [hz', hzs, e1]
      exact ints_set _ _ _ _ (by omega)
    · intro x hx
      rcases List.mem_or_eq_of_mem_set hx with hx | hx
      · exact hyb x hx
      · rw [hx]; omega
    · rw [be_set _ _ hyi (by omega), hyl, show W - 1 - (W - 1 - p) = p by omega, Int.toNat_natCast, hX2, ← hyv, Nat.pow_succ]
      have h4 : C = 256 * (C / 256) + C % 256 := by omega
      have h5 : (C - q) * 256 ^ p + q * 256 ^ p = C * 256 ^ p := by rw [← Nat.add_mul]; congr 1; omega
      have h6 : C % 256 * 256 ^ p + C / 256 * (256 ^ p * 256) = C * 256 ^ p := by
        rw [Nat.mul_comm (256 ^ p) 256, ← Nat.mul_assoc, ← Nat.add_mul]
        congr 1
        omega
      omega
    · intro j hj
      rw [List.getElem?_set, if_neg (by omega)]
      exact hy0 j (by omega)
  have hpw : be xs % 256 ^ (p + 1) = be xs % 256 ^ p + 256 ^ p * (be xs / 256 ^ p % 256) := by rw [Nat.pow_succ, Nat.mod_mul]
  by_cases hpn : p < n
  · refine br_t (by rw [ek, cmp_geq hA]; simp; omega) ?_
    conv => cbv
    refine ix_ri h o (n - 1 - p) (by rw [ek]; omega) (by omega) ?_
    refine ld_u8 hA h (by rw [ek]; omega) (by rw [ek]; omega) ?_
    intro d hd hd0 hd1
    rw [ek] at hd
    have hd' : xs[xs.length - 1 - p]? = some d := by rw [getD_get (by omega), hd]; congr 2; omega
    have hdv := be_get hby (by omega) hd'
    obtain ⟨D, hD⟩ : ∃ D, D = be xs / 256 ^ p % 256 := ⟨_, rfl⟩
    rw [← hD] at hdv hpw
    conv => cbv
    have hDB : D * B ≤ 255 * B := Nat.mul_le_mul_right _ (by omega)
    have ec : bin .add .u64 qi (bin .mul .u64 (cnv .u64 d) bi) = ((q + D * B : Nat) : Int) := by
      have e1 : bin .mul .u64 (cnv .u64 d) bi = ((D * B : Nat) : Int) := by
        rw [cnv_u64 hA (by omega), hdv, hbi, mul_u64 hA ⟨by rw [← Int.natCast_mul]; exact Int.natCast_nonneg _, by rw [← Int.natCast_mul]; omega⟩, Int.natCast_mul]
      rw [e1, hq, add_u64 hA (by omega)]
      omega
    refine ⟨by decide, ?_⟩
    refine ⟨by omega, by rw [oW]; omega, rfl, ?_⟩
    refine ⟨0, _, ab, W - 1 - p, rfl, rfl, by rw [elem_is hA]; show ab.add (ii.toNat * 1) = _; rw [Nat.mul_one, hii], by show W - 1 - p + 1 ≤ zs.length; rw [hzs, ints_len, hyl]; omega, ?_⟩
    intro zs' hzs'
    conv => cbv
    refine ⟨by decide, ?_⟩
    refine ⟨W - (p + 1), ⟨bin .sub .i64 ii 1, bin .quo .u64 (bin .add .u64 qi (bin .mul .u64 (cnv .u64 d) bi)) 256, zs'⟩, by omega, ⟨⟨rfl, rfl, rfl, rfl, rfl, trivial⟩, rfl, trivial, rfl, .refl _⟩, step (q + D * B) _ ec (by omega) ?_ (by omega) zs' hzs'⟩
    rw [hpw, Nat.add_mul, Nat.add_sub_cancel_left, Nat.mul_comm (256 ^ p) D, Nat.mul_assoc, Nat.mul_comm (256 ^ p) B, ← Nat.mul_assoc]
  · refine br_f (by rw [ek, cmp_geq hA]; simp; omega) ?_
    conv => cbv
    refine ⟨by decide, ?_⟩
    refine ⟨by omega, by rw [oW]; omega, rfl, ?_⟩
    refine ⟨0, _, ab, W - 1 - p, rfl, rfl, by rw [elem_is hA]; show ab.add (ii.toNat * 1) = _; rw [Nat.mul_one, hii], by show W - 1 - p + 1 ≤ zs.length; rw [hzs, ints_len, hyl]; omega, ?_⟩
    intro zs' hzs'
    conv => cbv
    refine ⟨by decide, ?_⟩
    refine ⟨W - (p + 1), ⟨bin .sub .i64 ii 1, bin .quo .u64 qi 256, zs'⟩, by omega, ⟨⟨rfl, rfl, rfl, rfl, rfl, trivial⟩, rfl, trivial, rfl, .refl _⟩, step q _ hq (by omega) ?_ (Nat.le_refl _) zs' hzs'⟩
    have hD0 : be xs / 256 ^ p = 0 := Nat.div_eq_of_lt (Nat.lt_of_lt_of_le hX (Nat.pow_le_pow_right (by decide) (by omega)))
    rw [hpw, hD0, Nat.sub_self]
    simp
end Go.Proofs.YtepfbdfbfimefaaDoor.Co
