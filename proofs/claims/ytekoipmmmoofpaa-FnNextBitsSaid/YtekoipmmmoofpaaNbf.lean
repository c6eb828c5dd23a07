/- Great numbers by the reference: compared. -/
import Derived.Test.YtekoipmmmoofpaaNbb
import Derived.Test.YtekoipmmmoofpaaCod
import Derived.Test.YtekoipmmmoofpaaSl
import Derived.Test.YtekoipmmmoofpaaProg
import Derived.KernelRfl
-- merged
/- The types that some functions name, as the evaluator wants them. Printed by a program of my own (seatgen.py). -/
namespace Go.Proofs.Ytekoipmmmoofpaa.Tyng
open Go Go.Se Go.Proofs

/-- int -/
def y3 : Ty := ⟨.int .i64, 1, false, .int .i64 0, 8⟩
theorem ty3 : tyOf Try.prog 3 = some y3 := by kernel_rfl
/-- uint8 -/
def y5 : Ty := ⟨.int .u8, 1, false, .int .u8 0, 1⟩
theorem ty5 : tyOf Try.prog 5 = some y5 := by kernel_rfl
/-- []uint8 -/
def y22 : Ty := ⟨.slc 5, 1, false, .slice none 0 0, 24⟩
theorem ty22 : tyOf Try.prog 22 = some y22 := by kernel_rfl

/-- function 18: pub-mintmark/spec.compareGreat -/
def tys18 : Nat → Option Ty := fun t => find [(22, y22), (5, y5), (3, y3)] t
theorem ok18 : TysOk Try.prog tys18 := tysOk_of ⟨ty22, ty5, ty3, trivial⟩
end Go.Proofs.Ytekoipmmmoofpaa.Tyng
set_option linter.unusedSimpArgs false
set_option linter.unusedVariables false
namespace Go.Proofs.Ytekoipmmmoofpaa.Co
open Go Go.Se Go.Proofs Go.Proofs.Ytekoipmmmoofpaa.Ht Go.Proofs.Ytekoipmmmoofpaa.Tyng

theorem dl_lt_of {X Y : Nat} (h : (dl X).length < (dl Y).length) : X < Y := by
  have hY : Y ≠ 0 := fun e => by rw [e, dl0] at h; simp at h
  have h1 := dl_lt X
  obtain ⟨h2, h3⟩ := dl_len Y hY
  exact Nat.lt_of_lt_of_le h1 (Nat.le_trans (Nat.pow_le_pow_right (by decide) (by omega)) h3)

theorem byte_lt {X Y B : Nat} (hP : X / B / 256 = Y / B / 256) (hlt : X / B % 256 < Y / B % 256) : X < Y := by
  have h1 : X / B < Y / B := by omega
  exact Nat.lt_of_not_le fun h2 => by
    have := Nat.div_le_div_right (c := B) h2
    omega

theorem dl_le {xs : List Int} (h : By xs) : (dl (be xs)).length ≤ xs.length := by
  by_cases h0 : be xs = 0
  · rw [h0, dl0]; simp
  · obtain ⟨h1, h2⟩ := dl_len _ h0
    have h3 := be_lt h
    have := (Nat.pow_lt_pow_iff_right (by decide : 1 < 256)).1 (Nat.lt_of_le_of_lt h2 h3)
    omega



set_option maxRecDepth 100000 in
set_option maxHeartbeats 2000000 in
theorem compareG {P : Program} (hP : P = Try.prog) (R : RO) (a0 b0 : Option Addr) (n0 c0 k0 e0 : Nat) (xs ys : List Int) (h0x : RI R .u8 a0 n0 xs) (hcx : n0 ≤ c0) (hnx : n0 ≤ 10000) (h0y : RI R .u8 b0 k0 ys) (hcy : k0 ≤ e0) (hny : k0 ≤ 10000) :
    RetP P 18 [.slice a0 n0 c0, .slice b0 k0 e0] R fun _ r => ∃ ci : Int, r = .int .i64 ci ∧ (0 < ci ↔ be ys < be xs) := by
  subst hP
  refine retP_vc (fz := []) Try.func18 rfl (by decide) rfl ok18 ?_
  intro P bin cmp cnv neg com bnot beq ofN toN at_ sub_ scmp cat sget ssz ssub elem fld_ hP hA
  conv => cbv
  refine (trimP hP R a0 n0 c0 xs h0x hcx (by omega)).callP rfl ?_
  rintro R1 _ hR1 ⟨a, n, c, rfl, h, hc⟩
  conv => cbv
  refine (trimP hP R1 b0 k0 e0 ys (h0y.le hR1) hcy (by omega)).callP rfl ?_
  rintro R2 _ hR2 ⟨b, k, e, rfl, h2, he⟩
  replace h := h.le hR2
  obtain ⟨X, hX⟩ : ∃ X, X = be xs := ⟨_, rfl⟩
  obtain ⟨Y, hY⟩ : ∃ Y, Y = be ys := ⟨_, rfl⟩
  rw [← hX] at h ⊢
  rw [← hY] at h2 ⊢
  have hl := h.len
  have hl2 := h2.len
  have hnb : n ≤ 10000 := by
    have e1 := dl_le (By.of_wf h0x.wf)
    have e2 := h0x.len
    rw [List.length_reverse, hX] at hl
    omega
  conv => cbv
  have o := ofN_ hA n
  have o2 := ofN_ hA k
  by_cases hnk : n = k
  case neg =>
    refine br_t (by rw [o, o2, cmp_neq hA]; exact bne_iff_ne.2 (by omega)) ?_
    conv => cbv
    by_cases hlt : n < k
    · refine br_t (by rw [o, o2, cmp_lss hA]; simp; omega) ?_
      conv => cbv
      have := dl_lt_of (X := X) (Y := Y) (by rw [List.length_reverse] at hl hl2; omega)
      intro ρ R'' _ _ _
      exact ⟨-1, rfl, ⟨fun e => absurd e (by decide), fun e => by omega⟩⟩
    refine br_f (by rw [o, o2, cmp_lss hA]; simp; omega) ?_
    conv => cbv
    have := dl_lt_of (X := Y) (Y := X) (by rw [List.length_reverse] at hl hl2; omega)
    intro ρ R'' _ _ _
    exact ⟨1, rfl, ⟨fun _ => this, fun _ => by decide⟩⟩
  refine br_f (by rw [o, o2, cmp_neq hA, hnk]; simp) ?_
  conv => cbv
  have hXl := dl_lt X
  have hYl := dl_lt Y
  rw [show (dl X).length = n by rw [hl, List.length_reverse]] at hXl
  rw [show (dl Y).length = n by rw [hnk, hl2, List.length_reverse]] at hYl
  refine ⟨Int, fun x => ⟨[(5, .v (.int .i64 x)), (0, .v (.slice a n c)), (1, .v (.slice b k e))], R2, [], 0, []⟩, fun m x => ∃ i : Nat, x = i ∧ i ≤ n ∧ m = n - i ∧ X / 256 ^ (n - i) = Y / 256 ^ (n - i),
    ⟨n, 0, ⟨⟨rfl, rfl, rfl, trivial⟩, rfl, trivial, rfl, .refl _⟩, 0, rfl, by omega, rfl, by rw [Nat.sub_zero, Nat.div_eq_of_lt hXl, Nat.div_eq_of_lt hYl]⟩, ?_⟩
  rintro m x ⟨i, hi, hin, hm, heq⟩
  conv => cbv
  by_cases hlt : i < n
  case neg =>
    refine br_f (by rw [o, cmp_lss hA]; simp; omega) ?_
    conv => cbv
    rw [show n - i = 0 by omega, Nat.pow_zero, Nat.div_one, Nat.div_one] at heq
    intro ρ R'' _ _ _
    exact ⟨0, rfl, ⟨fun e => absurd e (by decide), fun e => by omega⟩⟩
  refine br_t (by rw [o, cmp_lss hA]; simp; omega) ?_
  conv => cbv
  rw [show n - i = (n - 1 - i) + 1 by omega, Nat.pow_succ, ← Nat.div_div_eq_div_mul, ← Nat.div_div_eq_div_mul] at heq
  refine ⟨[0, 1, 2, 3, 4, 5, 6, 7, 8], [], mix hP, by kernel_rfl, ?_⟩
  conv => cbv
  refine ix_ri h o i hi (by omega) ?_
  refine ld_u8 hA h (by omega) (by omega) ?_
  intro d1 hd1 _ _
  have hd1' : d1 = ((X / 256 ^ (n - 1 - i) % 256 : Nat) : Int) := by
    have e1 : (dl X).reverse[i]? = some d1 := by rw [getD_get (by omega), hd1]; congr 2; omega
    rw [List.getElem?_reverse (by rw [List.length_reverse] at hl; omega), show (dl X).length = n by rw [hl, List.length_reverse]] at e1
    exact dl_get X _ _ e1
  conv => cbv
  refine ix_ri h2 o2 i hi (by omega) ?_
  refine ld_u8 hA h2 (by omega) (by omega) ?_
  intro d2 hd2 _ _
  have hd2' : d2 = ((Y / 256 ^ (n - 1 - i) % 256 : Nat) : Int) := by
    have e1 : (dl Y).reverse[i]? = some d2 := by rw [getD_get (by omega), hd2]; congr 2; omega
    rw [List.getElem?_reverse (by rw [List.length_reverse] at hl2; omega), show (dl Y).length = n by rw [hnk, hl2, List.length_reverse]] at e1
    exact dl_get Y _ _ e1
  conv => cbv
  by_cases hd : X / 256 ^ (n - 1 - i) % 256 = Y / 256 ^ (n - 1 - i) % 256
  · refine br_f (by rw [cmp_neq hA, hd1', hd2', hd]; simp) ?_
    conv => cbv
    refine ⟨n - (i + 1), bin .add .i64 x 1, by omega, ⟨⟨rfl, rfl, rfl, trivial⟩, rfl, trivial, rfl, .refl _⟩, i + 1, by rw [hi, add_i64 hA (by omega)]; rfl, by omega, rfl, ?_⟩
    rw [show n - (i + 1) = n - 1 - i by omega]
    omega
  refine br_t (by rw [cmp_neq hA, hd1', hd2']; exact bne_iff_ne.2 fun e => hd (Int.ofNat_inj.1 e)) ?_
  conv => cbv
  clear hd1 hd2 hd1' hd2'
  refine ⟨[0, 1, 2, 3, 4, 5, 6, 7, 8], [], mix hP, by kernel_rfl, ?_⟩
  conv => cbv
  refine ix_ri h o i hi (by omega) ?_
  refine ld_u8 hA h (by omega) (by omega) ?_
  intro d1 hd1 _ _
  have hd1' : d1 = ((X / 256 ^ (n - 1 - i) % 256 : Nat) : Int) := by
    have e1 : (dl X).reverse[i]? = some d1 := by rw [getD_get (by omega), hd1]; congr 2; omega
    rw [List.getElem?_reverse (by rw [List.length_reverse] at hl; omega), show (dl X).length = n by rw [hl, List.length_reverse]] at e1
    exact dl_get X _ _ e1
  conv => cbv
  refine ix_ri h2 o2 i hi (by omega) ?_
  refine ld_u8 hA h2 (by omega) (by omega) ?_
  intro d2 hd2 _ _
  have hd2' : d2 = ((Y / 256 ^ (n - 1 - i) % 256 : Nat) : Int) := by
    have e1 : (dl Y).reverse[i]? = some d2 := by rw [getD_get (by omega), hd2]; congr 2; omega
    rw [List.getElem?_reverse (by rw [List.length_reverse] at hl2; omega), show (dl Y).length = n by rw [hnk, hl2, List.length_reverse]] at e1
    exact dl_get Y _ _ e1
  conv => cbv
  by_cases hlt2 : X / 256 ^ (n - 1 - i) % 256 < Y / 256 ^ (n - 1 - i) % 256
  · refine br_t (by rw [cmp_lss hA, hd1', hd2']; exact decide_eq_true (Int.ofNat_lt.2 hlt2)) ?_
    conv => cbv
    have := byte_lt heq hlt2
    intro ρ R'' _ _ _
    exact ⟨-1, rfl, ⟨fun e => absurd e (by decide), fun e => by omega⟩⟩
  refine br_f (by rw [cmp_lss hA, hd1', hd2']; exact decide_eq_false fun e => hlt2 (Int.ofNat_lt.1 e)) ?_
  conv => cbv
  have := byte_lt heq.symm (Nat.lt_of_le_of_ne (Nat.le_of_not_lt hlt2) (Ne.symm hd))
  intro ρ R'' _ _ _
  exact ⟨1, rfl, ⟨fun _ => this, fun _ => by decide⟩⟩
end Go.Proofs.Ytekoipmmmoofpaa.Co
