/- A push of data, as the reference writes it. -/
import Derived.Test.YtclkimgpdnldnaaNda
set_option linter.unusedSimpArgs false
set_option linter.unusedVariables false
namespace Go.Proofs.Ytclkimgpdnldnaa.Nd
open Go Go.Se Go.Proofs Go.Proofs.Ytclkimgpdnldnaa.Tynd

structure Lo where
  a : Option Addr
  n : Nat
  c : Nat
  zs : List Value

set_option maxRecDepth 100000 in
theorem pushed {P : Program} (hP : P = Try.prog) (R : RO) (a : Option Addr) (n c : Nat) (xs : List Int) (h : RI R .u8 a n xs) (hn : n ≤ 80) : RowP P 37 [.slice a n c] R 5 1 (Bs .u8 (push xs)) := by
  subst hP
  have hl := h.len
  have hr := lst_range h.wf
  refine rowP_vc (fz := []) Try.func37 rfl (by decide) rfl ok37 ?_
  intro P bin cmp cnv neg com bnot beq ofN toN at_ sub_ scmp cat sget ssz ssub elem fld_ hP hA
  conv => cbv
  have o := ofN_ hA n
  refine (least hP R a n c xs h hn).callQ rfl ?_
  rintro _ ⟨r, rfl, hrl⟩
  conv => cbv
  have e8 : cnv .u8 r = r := cnv_u8 hA (by omega)
  by_cases h0 : r = 0
  · have c1 : cmp .eql r 0 = true := by rw [cmp_eql hA]; simp; omega
    simp only [c1]
    conv => cbv
    refine fun _ => .inr (.inr ⟨0, 1, _, [.int .u8 (cnv .u8 r)], rfl, rfl, rfl, rfl, rfl, by decide, ?_, ?_⟩)
    · rw [push, if_pos (.inl (by omega))]; rfl
    · rw [push, if_pos (.inl (by omega)), e8, hrl]; rfl
  have c1 : cmp .eql r 0 = false := by rw [cmp_eql hA]; simp; omega
  simp only [c1]
  conv => cbv
  by_cases h79 : 79 ≤ r
  · have c2 : cmp .geq r 79 = true := by rw [cmp_geq hA]; simp; omega
    simp only [c2]
    conv => cbv
    refine fun _ => .inr (.inr ⟨0, 1, _, [.int .u8 (cnv .u8 r)], rfl, rfl, rfl, rfl, rfl, by decide, ?_, ?_⟩)
    · rw [push, if_pos (.inr (by omega))]; rfl
    · rw [push, if_pos (.inr (by omega)), e8, hrl]; rfl
  have c2 : cmp .geq r 79 = false := by rw [cmp_geq hA]; simp; omega
  simp only [c2]
  conv => cbv
  have hpu : push xs = if 76 ≤ r then [r, (xs.length : Int)] ++ xs else [r] ++ xs := by rw [push, if_neg (by omega), hrl]
  refine ⟨Option Lo, fun x => match x with
      | none => ⟨[(6, .v (.int .i64 0)), (5, .v (.int .i64 (ofN n))), (4, .se 0 0 1 1), (3, .v (.int .i64 r)), (0, .v (.slice a n c))], R, [(0, ⟨5, [.v (.int .u8 (cnv .u8 r))]⟩)], 1, []⟩
      | some y => ⟨[(6, .v (.int .i64 1)), (5, .v (.int .i64 (bin .shr .i64 (ofN n) 8))), (4, .v (.slice y.a y.n y.c)), (3, .v (.int .i64 r)), (0, .v (.slice a n c))], R, [], 1, [⟨y.a, y.n, y.c, 5, 1, y.zs⟩]⟩,
    fun k x => match x with
      | none => k = 1
      | some y => k = 0 ∧ 76 ≤ r ∧ y.n = 2 ∧ y.zs = ints .u8 [r, (xs.length : Int)],
    ⟨1, none, ⟨⟨rfl, rfl, rfl, rfl, rfl, trivial⟩, rfl, ⟨rfl, trivial⟩, rfl, .refl _⟩, rfl⟩, ?_⟩
  rintro k x hx
  cases x with
  | none =>
    conv => cbv
    by_cases h76 : 76 ≤ r
    · have hr76 : r = 76 := by rw [hrl] at h76 h79 ⊢; exact lst_76 h76 (by omega)
      have c3 : cmp .geq r 76 = true := by rw [cmp_geq hA]; simp; omega
      have e1 : bin .sub .i64 r 76 = 0 := by rw [sub_i64 hA (by omega)]; omega
      have e2 : bin .shl .i64 1 (bin .sub .i64 r 76) = 1 := by rw [e1, shl_i64 hA (by omega) (by simp)]; rfl
      simp only [c3]
      conv => cbv
      refine ⟨by rw [e1]; omega, ?_⟩
      refine br_t (by rw [e2, cmp_lss hA]; rfl) ?_
      conv => cbv
      refine ⟨1, [.int .u8 (cnv .u8 r)], _, _, _, 1, [.int .u8 (cnv .u8 (ofN n))], .own 0 1 _ _ rfl rfl rfl rfl (by decide), .refl _, .own 1 0 1 1 _ _ rfl rfl rfl (by simp [Value.oneCell']), by omega, by omega, ?_⟩
      intro a' n' c' zs' hn' hz' hs'
      conv => cbv
      refine ⟨by decide, ?_⟩
      refine ⟨0, some ⟨a', n', c', zs'⟩, ?_, ⟨⟨?_, rfl, rfl, rfl, rfl, trivial⟩, rfl, trivial, rfl, .refl _⟩, rfl, h76, hn', ?_⟩
      · show 0 < k
        have : k = 1 := hx
        omega
      · rw [add_i64 hA (by omega)]
        rfl
      · show zs' = _
        rw [hz', e8, cnv_u8 hA (by omega), o, hl]
        rfl
    · have c3 : cmp .geq r 76 = false := by rw [cmp_geq hA]; simp; omega
      simp only [c3]
      conv => cbv
      refine ⟨1, [.int .u8 (cnv .u8 r)], _, _, _, n, _, .own 0 1 _ _ rfl rfl rfl rfl (by decide), .refl _, h.src, by omega, by omega, ?_⟩
      intro a' n' c' zs' hn' hz' hs'
      conv => cbv
      refine fun _ => Base1.isRow (rest := []) Base1.row ⟨?_, ?_⟩
      · rw [hpu, if_neg h76]; simp; omega
      · rw [hpu, if_neg h76, hz', e8, ← ints_app]; rfl
  | some y =>
    obtain ⟨a1, n1, c1', zs⟩ := y
    obtain ⟨-, h76, hn1, hzs⟩ := hx
    simp only at hn1 hzs
    conv => cbv
    have hr76 : r = 76 := by rw [hrl] at h76 h79 ⊢; exact lst_76 h76 (by omega)
    have c3 : cmp .geq r 76 = true := by rw [cmp_geq hA]; simp; omega
    have e1 : bin .sub .i64 r 76 = 0 := by rw [sub_i64 hA (by omega)]; omega
    have e2 : bin .shl .i64 1 (bin .sub .i64 r 76) = 1 := by rw [e1, shl_i64 hA (by omega) (by simp)]; rfl
    simp only [c3]
    conv => cbv
    refine ⟨by rw [e1]; omega, ?_⟩
    refine br_f (by rw [e2, cmp_lss hA]; rfl) ?_
    conv => cbv
    refine ⟨n1, zs, _, _, _, n, _, .row 0 ⟨a1, n1, c1', 5, 1, zs⟩ rfl rfl rfl, .refl _, h.src, by omega, by omega, ?_⟩
    intro a' n' c' zs' hn' hz' hs'
    conv => cbv
    refine fun _ => Base1.isRow (rest := []) Base1.row ⟨?_, ?_⟩
    · rw [hpu, if_pos h76]; simp; omega
    · rw [hpu, if_pos h76, hz', hzs, ← ints_app]
end Go.Proofs.Ytclkimgpdnldnaa.Nd
