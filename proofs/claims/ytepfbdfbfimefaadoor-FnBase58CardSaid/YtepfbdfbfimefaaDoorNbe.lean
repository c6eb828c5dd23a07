/- Great numbers: compared; over another of one digit. -/
import Derived.Test.YtepfbdfbfimefaaDoorNbd
import Derived.Test.YtepfbdfbfimefaaDoorSl
import Derived.Test.YtepfbdfbfimefaaDoorProg
import Derived.KernelRfl
-- merged
/- The types that some functions name, as the evaluator wants them. Printed by a program of my own (seatgen.py). -/
namespace Go.Proofs.YtepfbdfbfimefaaDoor.Tynf
open Go Go.Se Go.Proofs

/-- int -/
def y3 : Ty := ⟨.int .i64, 1, false, .int .i64 0, 8⟩
theorem ty3 : tyOf Tryd.prog 3 = some y3 := by kernel_rfl
/-- string -/
def y9 : Ty := ⟨.str, 1, false, .string ByteArray.empty, 16⟩
theorem ty9 : tyOf Tryd.prog 9 = some y9 := by kernel_rfl
/-- uint64 -/
def y33 : Ty := ⟨.int .u64, 1, false, .int .u64 0, 8⟩
theorem ty33 : tyOf Tryd.prog 33 = some y33 := by kernel_rfl
/-- big.nat -/
def y48 : Ty := ⟨.slc 68, 1, false, .slice none 0 0, 24⟩
theorem ty48 : tyOf Tryd.prog 48 = some y48 := by kernel_rfl
/-- uint32 -/
def y68 : Ty := ⟨.int .u32, 1, false, .int .u32 0, 4⟩
theorem ty68 : tyOf Tryd.prog 68 = some y68 := by kernel_rfl
/-- uint -/
def y82 : Ty := ⟨.int .u64, 1, false, .int .u64 0, 8⟩
theorem ty82 : tyOf Tryd.prog 82 = some y82 := by kernel_rfl

/-- function 49: (pub-mintmark/pub/smallbig.nat).div -/
def tys49 : Nat → Option Ty := fun t => find [(48, y48), (68, y68), (3, y3), (9, y9), (33, y33), (82, y82)] t
theorem ok49 : TysOk Tryd.prog tys49 := tysOk_of ⟨ty48, ty68, ty3, ty9, ty33, ty82, trivial⟩

/-- function 50: (pub-mintmark/pub/smallbig.nat).cmp -/
def tys50 : Nat → Option Ty := fun t => find [(48, y48), (68, y68), (3, y3)] t
theorem ok50 : TysOk Tryd.prog tys50 := tysOk_of ⟨ty48, ty68, ty3, trivial⟩
end Go.Proofs.YtepfbdfbfimefaaDoor.Tynf
set_option linter.unusedSimpArgs false
set_option linter.unusedVariables false
namespace Go.Proofs.YtepfbdfbfimefaaDoor.Co
open Go Go.Se Go.Proofs Go.Proofs.YtepfbdfbfimefaaDoor.Tynf

theorem mix2 {P : Program} (hP : P = Tryd.prog) : P.follows .mixedOrders = true := by subst hP; rfl

theorem cn_lt_of {X Y : Nat} (h : (cn X).length < (cn Y).length) : X < Y := by
  have hY : Y ≠ 0 := fun e => by rw [e, cn0] at h; simp at h
  have h1 := cn_lt X
  obtain ⟨h2, h3⟩ := cn_len Y hY
  exact Nat.lt_of_lt_of_le h1 (Nat.le_trans (Nat.pow_le_pow_right (by decide) (by omega)) h3)

theorem digit_lt {X Y B P : Nat} (hB : 0 < B) (hP : X / B / 4294967296 = Y / B / 4294967296) (hlt : X / B % 4294967296 < Y / B % 4294967296) : X < Y := by
  have h1 : X / B < Y / B := by omega
  exact Nat.lt_of_not_le fun h2 => by
    have := Nat.div_le_div_right (c := B) h2
    omega



set_option maxRecDepth 100000 in
set_option maxHeartbeats 2000000 in
theorem cmpN {P : Program} (hP : P = Tryd.prog) (R : RO) (a b : Option Addr) (n c k e X Y : Nat) (h : RI R .u32 a n (cn X)) (hn : n ≤ 10000) (h2 : RI R .u32 b k (cn Y)) (hk : k ≤ 10000) :
    RetP P 50 [.slice a n c, .slice b k e] R fun _ r => ∃ ci : Int, r = .int .i64 ci ∧ ((ci < 0 ↔ X < Y) ∧ (0 < ci ↔ Y < X)) := by
  subst hP
  have hl := h.len
  have hl2 := h2.len
  refine retP_vc (fz := []) Tryd.func50 rfl (by decide) rfl ok50 ?_
  intro P bin cmp cnv neg com bnot beq ofN toN at_ sub_ scmp cat sget ssz ssub elem fld_ hP hA
  conv => cbv
  have o := ofN_ hA n
  have o2 := ofN_ hA k
  by_cases hnk : n = k
  case neg =>
    refine br_t (by rw [o, o2, cmp_neq hA]; exact bne_iff_ne.2 (by omega)) ?_
    conv => cbv
    by_cases hlt : n < k
    · refine br_t (by rw [o, o2, cmp_lss hA]; simp; omega) ?_
      conv => cbv
      have := cn_lt_of (X := X) (Y := Y) (by omega)
      intro ρ R'' _ _ _
      exact ⟨-1, rfl, ⟨⟨fun _ => this, fun _ => by decide⟩, ⟨fun e => absurd e (by decide), fun e => by omega⟩⟩⟩
    refine br_f (by rw [o, o2, cmp_lss hA]; simp; omega) ?_
    conv => cbv
    have := cn_lt_of (X := Y) (Y := X) (by omega)
    intro ρ R'' _ _ _
    exact ⟨1, rfl, ⟨⟨fun e => absurd e (by decide), fun e => by omega⟩, ⟨fun _ => this, fun _ => by decide⟩⟩⟩
  refine br_f (by rw [o, o2, cmp_neq hA, hnk]; simp) ?_
  conv => cbv
  have es : bin .sub .i64 (ofN n) 1 = (n : Int) - 1 := by rw [o]; exact sub_i64 hA (by omega)
  have hX := cn_lt X
  have hY := cn_lt Y
  rw [← hl] at hX
  rw [← hl2, ← hnk] at hY
  refine ⟨Int, fun x => ⟨[(5, .v (.int .i64 x)), (0, .v (.slice a n c)), (1, .v (.slice b k e))], R, [], 0, []⟩, fun m x => x = (m : Int) - 1 ∧ m ≤ n ∧ X / 4294967296 ^ m = Y / 4294967296 ^ m,
    ⟨n, bin .sub .i64 (ofN n) 1, ⟨⟨rfl, rfl, rfl, trivial⟩, rfl, trivial, rfl, .refl _⟩, es, Nat.le_refl _, by rw [Nat.div_eq_of_lt hX, Nat.div_eq_of_lt hY]⟩, ?_⟩
  rintro m x ⟨hx, hm, heq⟩
  conv => cbv
  by_cases h0 : m = 0
  · refine br_f (by rw [cmp_geq hA]; simp; omega) ?_
    conv => cbv
    rw [h0, Nat.pow_zero, Nat.div_one, Nat.div_one] at heq
    intro ρ R'' _ _ _
    exact ⟨0, rfl, ⟨⟨fun e => absurd e (by decide), fun e => by omega⟩, ⟨fun e => absurd e (by decide), fun e => by omega⟩⟩⟩
  refine br_t (by rw [cmp_geq hA]; simp; omega) ?_
  conv => cbv
  obtain ⟨i, hmi⟩ : ∃ i, m = i + 1 := ⟨m - 1, by omega⟩
  have hi : x = i := by omega
  rw [hmi, Nat.pow_succ, ← Nat.div_div_eq_div_mul, ← Nat.div_div_eq_div_mul] at heq
  have hB := Nat.pow_pos (n := i) (show 0 < 4294967296 by decide)
  refine ⟨[0, 1, 2, 3, 4, 5, 6, 7, 8], [], mix2 hP, by kernel_rfl, ?_⟩
  conv => cbv
  refine ix_ri h o i hi (by omega) ?_
  refine ld_ri hA h (by omega) (by omega) ?_
  intro d1 hd1 _
  have hd1' : d1 = ((X / 4294967296 ^ i % 4294967296 : Nat) : Int) := by
    refine cn_get ?_
    rw [getD_get (by omega), hd1]
    congr 2
    omega
  conv => cbv
  refine ix_ri h2 o2 i hi (by omega) ?_
  refine ld_ri hA h2 (by omega) (by omega) ?_
  intro d2 hd2 _
  have hd2' : d2 = ((Y / 4294967296 ^ i % 4294967296 : Nat) : Int) := by
    refine cn_get ?_
    rw [getD_get (by omega), hd2]
    congr 2
    omega
  conv => cbv
  by_cases hd : X / 4294967296 ^ i % 4294967296 = Y / 4294967296 ^ i % 4294967296
  · refine br_f (by rw [cmp_neq hA, hd1', hd2', hd]; simp) ?_
    conv => cbv
    refine ⟨i, bin .sub .i64 x 1, by omega, ⟨⟨rfl, rfl, rfl, trivial⟩, rfl, trivial, rfl, .refl _⟩, by rw [hi]; exact sub_i64 hA (by omega), by omega, by omega⟩
  refine br_t (by rw [cmp_neq hA, hd1', hd2']; exact bne_iff_ne.2 fun e => hd (Int.ofNat_inj.1 e)) ?_
  conv => cbv
  clear hd1 hd2 hd1' hd2'
  refine ⟨[0, 1, 2, 3, 4, 5, 6, 7, 8], [], mix2 hP, by kernel_rfl, ?_⟩
  conv => cbv
  refine ix_ri h o i hi (by omega) ?_
  refine ld_ri hA h (by omega) (by omega) ?_
  intro d1 hd1 _
  have hd1' : d1 = ((X / 4294967296 ^ i % 4294967296 : Nat) : Int) := by
    refine cn_get ?_
    rw [getD_get (by omega), hd1]
    congr 2
    omega
  conv => cbv
  refine ix_ri h2 o2 i hi (by omega) ?_
  refine ld_ri hA h2 (by omega) (by omega) ?_
  intro d2 hd2 _
  have hd2' : d2 = ((Y / 4294967296 ^ i % 4294967296 : Nat) : Int) := by
    refine cn_get ?_
    rw [getD_get (by omega), hd2]
    congr 2
    omega
  conv => cbv
  by_cases hlt : X / 4294967296 ^ i % 4294967296 < Y / 4294967296 ^ i % 4294967296
  · refine br_t (by rw [cmp_lss hA, hd1', hd2']; exact decide_eq_true (Int.ofNat_lt.2 hlt)) ?_
    conv => cbv
    have := digit_lt (P := 0) hB heq hlt
    intro ρ R'' _ _ _
    exact ⟨-1, rfl, ⟨⟨fun _ => this, fun _ => by decide⟩, ⟨fun e => absurd e (by decide), fun e => by omega⟩⟩⟩
  refine br_f (by rw [cmp_lss hA, hd1', hd2']; exact decide_eq_false fun e => hlt (Int.ofNat_lt.1 e)) ?_
  conv => cbv
  have := digit_lt (P := 0) hB heq.symm (Nat.lt_of_le_of_ne (Nat.le_of_not_lt hlt) (Ne.symm hd))
  intro ρ R'' _ _ _
  exact ⟨1, rfl, ⟨⟨fun e => absurd e (by decide), fun e => by omega⟩, ⟨fun _ => this, fun _ => by decide⟩⟩⟩

set_option maxRecDepth 100000 in
set_option maxHeartbeats 2000000 in
theorem divP {P : Program} (hP : P = Tryd.prog) (R : RO) (a b : Option Addr) (n c k e X Y : Nat) (h : RI R .u32 a n (cn X)) (hc : n ≤ c) (hn : n ≤ 10000) (h2 : RI R .u32 b k (cn Y)) (hY0 : Y ≠ 0) (hY : Y < 4294967296) :
    RetP P 49 [.slice a n c, .slice b k e] R fun R' r => ∃ a' n' c' b' k' e', r = .tuple #[.slice a' n' c', .slice b' k' e'] ∧ RI R' .u32 a' n' (cn (X / Y)) ∧ n' ≤ c' ∧ RI R' .u32 b' k' (cn (X % Y)) ∧ k' ≤ e' := by
  subst hP
  have hk : k = 1 := by rw [h2.len, cn_one hY0 hY]; rfl
  refine retP_vc (fz := []) Tryd.func49 rfl (by decide) rfl ok49 ?_
  intro P bin cmp cnv neg com bnot beq ofN toN at_ sub_ scmp cat sget ssz ssub elem fld_ hP hA
  conv => cbv
  have ok := ofN_ hA k
  refine br_f (by rw [ok, cmp_eql hA]; simp; omega) ?_
  conv => cbv
  refine (cmpN hP R a b n c k e X Y h hn h2 (by omega)).callQ rfl ?_
  rintro _ ⟨ci, rfl, hci, -⟩
  conv => cbv
  by_cases hlt : X < Y
  · refine br_t (by rw [cmp_lss hA]; exact decide_eq_true (hci.2 hlt)) ?_
    conv => cbv
    intro ρ R'' hle _ _
    exact ⟨none, 0, 0, a, n, c, rfl, by rw [Nat.div_eq_of_lt hlt, cn0]; exact RI.nil, Nat.le_refl _, by rw [Nat.mod_eq_of_lt hlt]; exact h.le hle, hc⟩
  refine br_f (by rw [cmp_lss hA]; exact decide_eq_false fun e => hlt (hci.1 e)) ?_
  conv => cbv
  refine br_t (by rw [ok, cmp_eql hA]; simp; omega) ?_
  conv => cbv
  refine ix_ri h2 ok 0 rfl (by omega) ?_
  refine ld_ri hA h2 (by omega) (by omega) ?_
  intro y hy hyw
  have hyY : y = Y := by rw [hy, cn_one hY0 hY]; rfl
  conv => cbv
  refine (divWP hP R a n c X h hc hn Y y hyY (by omega) hY).callP rfl ?_
  rintro R1 _ hR1 ⟨a', n', c', l, rfl, hlv, hr, hc'⟩
  conv => cbv
  have hm : X % Y < 4294967296 := Nat.lt_trans (Nat.mod_lt _ (by omega)) hY
  have el : cnv .u64 l = ((X % Y : Nat) : Int) := by
    rw [hlv]
    have h5 : ∀ Q : Nat, Q < 4294967296 → cnv .u64 (Q : Int) = (Q : Int) := fun Q hQ => cnv_u64 hA (by omega)
    exact h5 _ hm
  refine (natOfP hP R1 (X % Y) _ el (by omega)).callP rfl ?_
  rintro R2 _ hR2 ⟨b', k', e', rfl, hr2, he'⟩
  conv => cbv
  intro ρ R'' hle _ _
  exact ⟨a', n', c', b', k', e', rfl, hr.le (RO.le_trans hR2 hle), hc', hr2.le hle, he'⟩
end Go.Proofs.YtepfbdfbfimefaaDoor.Co
