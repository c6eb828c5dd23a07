/- Numbers of variable length: the reference's. -/
import Derived.Test.YtnlpjppjhikooaaDoorSu
import Derived.Test.YtnlpjppjhikooaaDoorTyvr
set_option linter.unusedSimpArgs false
set_option linter.unusedVariables false
namespace Go.Proofs.YtnlpjppjhikooaaDoor.Vr
open Go Go.Se Go.Proofs Go.Proofs.YtnlpjppjhikooaaDoor.Tyvr

theorem mix {P : Program} (hP : P = Tryd.prog) : P.follows .mixedOrders = true := by subst hP; rfl

/-- Little bytes first. -/
def le (k v : Nat) : List Int := (List.range k).map fun i => ((v / 256 ^ i % 256 : Nat) : Int)

theorem le_len (k v : Nat) : (le k v).length = k := by simp [le]
theorem le_succ (k v : Nat) : le (k + 1) v = le k v ++ [((v / 256 ^ k % 256 : Nat) : Int)] := by simp [le, List.range_succ]

structure Ll where
  i : Int
  cur : Int
  a : Option Addr
  n : Nat
  c : Nat
  zs : List Value
  rs : List Row

set_option maxRecDepth 100000 in
theorem little {P : Program} (hP : P = Tryd.prog) (R : RO) (vi ki : Int) (v k : Nat) (hvi : vi = v) (hki : ki = k) (hv : v < 18446744073709551616) (hk : k ≤ 1000) : RowP P 39 [.int .u64 vi, .int .i64 ki] R 5 1 (Bs .u8 (le k v)) := by
  subst hP
  refine rowP_vc (fz := []) Tryd.func39 rfl (by decide) rfl ok39 ?_
  intro P bin cmp cnv neg com bnot beq ofN toN at_ sub_ scmp cat sget ssz ssub elem fld_ hP hA
  conv => cbv
  refine ⟨Ll, fun x => ⟨[(7, .v (.int .i64 x.i)), (6, .v (.int .i64 ki)), (5, .v (.slice x.a x.n x.c)), (0, .v (.int .u64 x.cur))], R, [], 0, x.rs⟩,
    fun m x => ∃ j : Nat, x.i = j ∧ j ≤ k ∧ m = k - j ∧ x.cur = (v / 256 ^ j : Nat) ∧ Base1 x.rs [] x.a x.n x.c 5 1 x.zs ∧ Bs .u8 (le j v) x.n x.zs,
    ⟨k, ⟨0, vi, none, 0, 0, [], []⟩, ⟨⟨rfl, rfl, rfl, rfl, trivial⟩, rfl, trivial, rfl, .refl _⟩, 0, rfl, by omega, rfl, by show vi = _; rw [hvi]; simp, Base1.nil, rfl, rfl⟩, ?_⟩
  rintro m ⟨i, cur, a1, n1, c1, zs, rs⟩ ⟨j, hi, hj, hm, hcur, hb, hn1, hzs⟩
  simp only at hi hcur hb hn1 hzs
  rw [le_len] at hn1
  conv => cbv
  by_cases hlt : j < k
  case neg =>
    refine br_f (by rw [cmp_lss hA]; simp; omega) ?_
    conv => cbv
    obtain rfl : j = k := by omega
    exact fun _ => hb.isRow (Φ := Bs .u8 (le _ v)) ⟨by rw [le_len]; exact hn1, hzs⟩
  refine br_t (by rw [cmp_lss hA]; simp; omega) ?_
  conv => cbv
  refine ⟨by decide, ?_⟩
  obtain ⟨q, hq⟩ : ∃ q, q = v / 256 ^ j := ⟨_, rfl⟩
  have hqv : q ≤ v := by rw [hq]; exact Nat.div_le_self _ _
  rw [← hq] at hcur
  have e1 : bin .rem .u64 cur 256 = ((q % 256 : Nat) : Int) := by rw [hcur, rem_u64 hA (by omega)]; simp
  have e2 : cnv .u8 (bin .rem .u64 cur 256) = ((q % 256 : Nat) : Int) := by rw [e1]; exact cnv_u8 hA (by omega)
  refine ⟨n1, zs, _, _, _, 1, [.int .u8 (cnv .u8 (bin .rem .u64 cur 256))], hb.base, .refl _, .own 0 0 1 1 _ _ rfl rfl rfl (by simp [Value.oneCell']), by omega, by omega, ?_⟩
  intro a' n' c' zs' hn' hz' hs'
  conv => cbv
  refine ⟨by decide, ?_⟩
  have e3 : bin .quo .u64 cur 256 = ((q / 256 : Nat) : Int) := by rw [hcur, quo_u64 hA (by omega) (by omega) (by decide)]; simp
  refine ⟨k - (j + 1), ⟨i + 1, bin .quo .u64 cur 256, a', n', c', zs', _⟩, by omega, ⟨⟨?_, rfl, rfl, rfl, trivial⟩, rfl, trivial, rfl, .refl _⟩, j + 1, by show i + 1 = ((j + 1 : Nat) : Int); omega, by omega, rfl, ?_, Base1.row, ?_, ?_⟩
  · rw [add_i64 hA (by omega)]
    rfl
  · show bin .quo .u64 cur 256 = ((v / 256 ^ (j + 1) : Nat) : Int)
    rw [e3, hq, Nat.pow_succ, Nat.div_div_eq_div_mul]
  · show n' = _
    rw [hn', hn1, le_len]
  · show zs' = _
    rw [hz', hzs, e2, le_succ, ← ints_app, hq]
    rfl

/-- A number of variable length. -/
def vi (v : Nat) : List Int := if v < 253 then [(v : Int)] else if v < 65536 then 253 :: le 2 v else if v < 4294967296 then 254 :: le 4 v else 255 :: le 8 v

def vlen (v : Nat) : Nat := if v < 253 then 1 else if v < 65536 then 3 else if v < 4294967296 then 5 else 9

theorem vi_len (v : Nat) : (vi v).length = vlen v := by
  unfold vi vlen
  split
  · rfl
  split
  · simp [le_len]
  split <;> simp [le_len]

theorem vlen_le (v : Nat) : vlen v ≤ 9 := by
  unfold vlen
  repeat' split <;> try omega
  all_goals omega


set_option maxRecDepth 100000 in
theorem varInt {P : Program} (hP : P = Tryd.prog) (R : RO) (vv : Int) (v : Nat) (hv : vv = v) (h64 : v < 18446744073709551616) : RowP P 16 [.int .u64 vv] R 5 1 (Bs .u8 (vi v)) := by
  subst hP
  refine rowP_vc (fz := []) Tryd.func16 rfl (by decide) rfl ok16 ?_
  intro P bin cmp cnv neg com bnot beq ofN toN at_ sub_ scmp cat sget ssz ssub elem fld_ hP hA
  conv => cbv
  by_cases h1 : v < 253
  · refine br_t (by rw [cmp_lss hA]; simp; omega) ?_
    conv => cbv
    have e : cnv .u8 vv = (v : Int) := by rw [hv]; exact cnv_u8 hA (by omega)
    refine fun _ => .inr (.inr ⟨0, 1, _, [.int .u8 (cnv .u8 vv)], rfl, rfl, rfl, rfl, rfl, by decide, ?_, ?_⟩)
    · rw [vi, if_pos h1]; rfl
    · rw [vi, if_pos h1, e]; rfl
  refine br_f (by rw [cmp_lss hA]; simp; omega) ?_
  conv => cbv
  by_cases h2 : v < 65536
  · refine br_t (by rw [cmp_lss hA]; simp; omega) ?_
    conv => cbv
    refine (little hP R vv 2 v 2 hv rfl (by omega) (by decide)).call rfl ?_
    intro a n c zs rs' hb hs hz
    obtain ⟨hn, hz⟩ := hz
    rw [le_len] at hn
    conv => cbv
    refine ⟨1, [.int .u8 253], _, _, [], n, zs, .own 0 1 _ _ rfl rfl rfl rfl (by decide), List.nil_sublist _, hb.src hs (by rw [hz, ints_len, le_len]; omega) (by rw [hz]; exact ints_one _ _), by omega, by omega, ?_⟩
    intro a' n' c' zs' hn' hz' hs'
    conv => cbv
    refine fun _ => Base1.isRow (rest := []) Base1.row ⟨?_, ?_⟩
    · rw [vi, if_neg h1, if_pos h2]; simp [le_len]; omega
    · rw [vi, if_neg h1, if_pos h2, hz', hz]; rfl
  refine br_f (by rw [cmp_lss hA]; simp; omega) ?_
  conv => cbv
  by_cases h3 : v < 4294967296
  · refine br_t (by rw [cmp_lss hA]; simp; omega) ?_
    conv => cbv
    refine (little hP R vv 4 v 4 hv rfl (by omega) (by decide)).call rfl ?_
    intro a n c zs rs' hb hs hz
    obtain ⟨hn, hz⟩ := hz
    rw [le_len] at hn
    conv => cbv
    refine ⟨1, [.int .u8 254], _, _, [], n, zs, .own 0 1 _ _ rfl rfl rfl rfl (by decide), List.nil_sublist _, hb.src hs (by rw [hz, ints_len, le_len]; omega) (by rw [hz]; exact ints_one _ _), by omega, by omega, ?_⟩
    intro a' n' c' zs' hn' hz' hs'
    conv => cbv
    refine fun _ => Base1.isRow (rest := []) Base1.row ⟨?_, ?_⟩
    · rw [vi, if_neg h1, if_neg h2, if_pos h3]; simp [le_len]; omega
    · rw [vi, if_neg h1, if_neg h2, if_pos h3, hz', hz]; rfl
  refine br_f (by rw [cmp_lss hA]; simp; omega) ?_
  conv => cbv
  refine (little hP R vv 8 v 8 hv rfl (by omega) (by decide)).call rfl ?_
  intro a n c zs rs' hb hs hz
  obtain ⟨hn, hz⟩ := hz
  rw [le_len] at hn
  conv => cbv
  refine ⟨1, [.int .u8 255], _, _, [], n, zs, .own 0 1 _ _ rfl rfl rfl rfl (by decide), List.nil_sublist _, hb.src hs (by rw [hz, ints_len, le_len]; omega) (by rw [hz]; exact ints_one _ _), by omega, by omega, ?_⟩
  intro a' n' c' zs' hn' hz' hs'
  conv => cbv
  refine fun _ => Base1.isRow (rest := []) Base1.row ⟨?_, ?_⟩
  · rw [vi, if_neg h1, if_neg h2, if_neg h3]; simp [le_len]; omega
  · rw [vi, if_neg h1, if_neg h2, if_neg h3, hz', hz]; rfl


end Go.Proofs.YtnlpjppjhikooaaDoor.Vr
