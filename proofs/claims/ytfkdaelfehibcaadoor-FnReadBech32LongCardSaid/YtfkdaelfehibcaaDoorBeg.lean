/- Texts of bech32: a builder that is read and written again. -/
import Derived.Test.YtfkdaelfehibcaaDoorBef
import Derived.Test.YtfkdaelfehibcaaDoorTybf
set_option linter.unusedSimpArgs false
set_option linter.unusedVariables false
namespace Go.Proofs.YtfkdaelfehibcaaDoor.Be
open Go Go.Se Go.Proofs Go.Proofs.YtfkdaelfehibcaaDoor.Tybf

/-- A builder's block. -/
abbrev bB (ad : SV) (a : Option Addr) (n c : Nat) : HB := ⟨55, [ad, .v (.slice a n c)]⟩
/-- A row whose head is frozen. -/
abbrev fR (a : Option Addr) (n c : Nat) : Row := ⟨a, n, c, 5, 4096, []⟩



set_option maxRecDepth 100000 in
set_option maxHeartbeats 2000000 in
theorem growC1 {P : Program} (hP : P = Tryd.prog) (R : RO) (rs : List Row) {K : RO → List (Nat × HB) → Nat → List Row → SV → Prop}
    (hk : ∀ a cap r, K R [(0, bB (.p 0 0) (some a) 0 cap)] 1 (fR (some a) 0 cap :: rs) r) :
    CallP P 19 [.p 0 0, .v (.int .i64 6)] R [(0, bB (.v (.pointer none)) none 0 0)] 1 rs K := by
  subst hP
  refine callP_of_vc (fz := []) Tryd.func19 rfl (by decide) (Nat.le_of_ble_eq_true rfl) ok19 (by simp [labL, lab]) ?_
  rintro P ⟨bin, cmp, cnv, neg, com, bnot, beq, ofN, toN, at_, sub_, scmp, cat, sget, ssz, ssub, elem, fld_⟩ hP hA
  conv => cbv
  refine callP_in (fz := [1000 + 31]) hP hA Tryd.func26 rfl (by decide) rfl ok26 (by simp [labL, lab]) ?_
  conv => cbv
  refine raw_to_unsafe rfl rfl rfl (Nat.zero_lt_succ _) (by rw [hP]; exact Tryd.underlying53) (by rw [hP]; exact Tryd.underlying69) (by rw [hP]; kernel_rfl) (Nat.le_of_ble_eq_true rfl) ?_
  conv => cbv
  refine gen_extern (e := Extern.AbiNoEscape.same) (.p 0 0) rfl rfl rfl (by rw [hP]; exact Tryd.func31) (by kernel_rfl) (by kernel_rfl) (by kernel_rfl) (by kernel_rfl) (fun ρ w _ => rfl) (Nat.le_of_ble_eq_true rfl) ?_
  conv => cbv
  obtain ⟨jj, hjj⟩ : ∃ i, P.info? 55 = some i := by rw [hP]; exact Option.isSome_iff_exists.1 (by kernel_rfl)
  refine raw_from_unsafe rfl rfl rfl (by rw [hP]; exact Tryd.underlying69) (by rw [hP]; exact Tryd.underlying53) hjj (by rw [hP]; kernel_rfl) (Nat.le_of_ble_eq_true rfl) ?_
  conv => cbv
  refine br_f (by rw [cmp_lss hA]; rfl) ?_
  conv => cbv
  refine ⟨[0, 1, 2, 3, 5, 6, 7, 8, 9, 11, 4, 10, 12], [], mix hP, by kernel_rfl, ?_⟩
  conv => cbv
  refine gen_cap hA rfl rfl rfl rfl (by rw [hP]; exact Tryd.underlying22) ?_
  conv => cbv
  refine ⟨⟨⟨rfl, trivial⟩, .refl _⟩, ?_⟩
  conv => cbv
  have o0 := ofN_ hA 0
  have e0 : bin .sub .i64 (ofN 0) (ofN 0) = 0 := by rw [o0]; exact sub_i64 hA (by omega)
  refine br_t (by rw [e0, cmp_lss hA]; rfl) ?_
  conv => cbv
  refine callP_in (fz := [1000 + 32]) hP hA Tryd.func27 rfl (by decide) rfl ok27 (by simp [labL, lab]) ?_
  conv => cbv
  refine ⟨[0, 1, 2, 3, 6, 9, 10, 11, 12, 13, 4, 5, 7, 8, 14, 15], [], mix hP, by kernel_rfl, ?_⟩
  conv => cbv
  refine gen_cap hA rfl rfl rfl rfl (by rw [hP]; exact Tryd.underlying22) ?_
  conv => cbv
  refine ⟨⟨⟨rfl, trivial⟩, .refl _⟩, ?_⟩
  conv => cbv
  have e6 : bin .add .i64 (bin .mul .i64 2 (ofN 0)) 6 = ((6 : Nat) : Int) := by rw [o0, mul_i64 hA (by omega), add_i64 hA (by omega)]; rfl
  refine gen_mnz (n := 6) (ps := #[3]) (t := 22) rfl rfl rfl e6 (by decide) (by rw [hP]; exact Tryd.func32) (by kernel_rfl) (by kernel_rfl) (by kernel_rfl) (by kernel_rfl) (by rw [hP]; exact Tryd.underlying22) ?_
  intro a cap hcap
  conv => cbv
  refine ⟨⟨⟨rfl, trivial⟩, List.sublist_cons_self _ _⟩, ?_⟩
  conv => cbv
  refine ⟨0, 0, rfl, o0.symm, Nat.le_refl _, by omega, ?_⟩
  intro a' n' c' hn' hc' ha'
  have hn0 : n' = 0 := hn'
  have hcc : c' = cap := by rw [hc']; exact Nat.sub_zero _
  have haa : a' = some a := by rw [ha', if_neg (by omega)]; simp [Addr.add]
  subst hn0 hcc haa
  conv => cbv
  refine ⟨0, [], .nil 0, .inl ⟨rfl, ?_⟩⟩
  conv => cbv
  exact hk _ _ _

set_option maxRecDepth 100000 in
set_option maxHeartbeats 2000000 in
theorem growC2 {P : Program} (hP : P = Tryd.prog) (R : RO) (rs : List Row) (ad : Option Addr) (n c : Nat) {K : RO → List (Nat × HB) → Nat → List Row → SV → Prop}
    (hk : ∀ a cap r, K R [(1, bB (.p 1 0) (some a) 0 cap), (0, bB (.p 0 0) ad n c)] 2 (fR (some a) 0 cap :: rs) r) :
    CallP P 19 [.p 1 0, .v (.int .i64 6)] R [(1, bB (.v (.pointer none)) none 0 0), (0, bB (.p 0 0) ad n c)] 2 rs K := by
  subst hP
  refine callP_of_vc (fz := []) Tryd.func19 rfl (by decide) (Nat.le_of_ble_eq_true rfl) ok19 (by simp [labL, lab]) ?_
  rintro P ⟨bin, cmp, cnv, neg, com, bnot, beq, ofN, toN, at_, sub_, scmp, cat, sget, ssz, ssub, elem, fld_⟩ hP hA
  conv => cbv
  refine callP_in (fz := [1000 + 31]) hP hA Tryd.func26 rfl (by decide) rfl ok26 (by simp [labL, lab]) ?_
  conv => cbv
  refine raw_to_unsafe rfl rfl rfl (Nat.zero_lt_succ _) (by rw [hP]; exact Tryd.underlying53) (by rw [hP]; exact Tryd.underlying69) (by rw [hP]; kernel_rfl) (Nat.le_of_ble_eq_true rfl) ?_
  conv => cbv
  refine gen_extern (e := Extern.AbiNoEscape.same) (.p 1 0) rfl rfl rfl (by rw [hP]; exact Tryd.func31) (by kernel_rfl) (by kernel_rfl) (by kernel_rfl) (by kernel_rfl) (fun ρ w _ => rfl) (Nat.le_of_ble_eq_true rfl) ?_
  conv => cbv
  obtain ⟨jj, hjj⟩ : ∃ i, P.info? 55 = some i := by rw [hP]; exact Option.isSome_iff_exists.1 (by kernel_rfl)
  refine raw_from_unsafe rfl rfl rfl (by rw [hP]; exact Tryd.underlying69) (by rw [hP]; exact Tryd.underlying53) hjj (by rw [hP]; kernel_rfl) (Nat.le_of_ble_eq_true rfl) ?_
  conv => cbv
  refine br_f (by rw [cmp_lss hA]; rfl) ?_
  conv => cbv
  refine ⟨[0, 1, 2, 3, 5, 6, 7, 8, 9, 11, 4, 10, 12], [], mix hP, by kernel_rfl, ?_⟩
  conv => cbv
  refine gen_cap hA rfl rfl rfl rfl (by rw [hP]; exact Tryd.underlying22) ?_
  conv => cbv
  refine ⟨⟨⟨rfl, rfl, trivial⟩, .refl _⟩, ?_⟩
  conv => cbv
  have o0 := ofN_ hA 0
  have e0 : bin .sub .i64 (ofN 0) (ofN 0) = 0 := by rw [o0]; exact sub_i64 hA (by omega)
  refine br_t (by rw [e0, cmp_lss hA]; rfl) ?_
  conv => cbv
  refine callP_in (fz := [1000 + 32]) hP hA Tryd.func27 rfl (by decide) rfl ok27 (by simp [labL, lab]) ?_
  conv => cbv
  refine ⟨[0, 1, 2, 3, 6, 9, 10, 11, 12, 13, 4, 5, 7, 8, 14, 15], [], mix hP, by kernel_rfl, ?_⟩
  conv => cbv
  refine gen_cap hA rfl rfl rfl rfl (by rw [hP]; exact Tryd.underlying22) ?_
  conv => cbv
  refine ⟨⟨⟨rfl, rfl, trivial⟩, .refl _⟩, ?_⟩
  conv => cbv
  have e6 : bin .add .i64 (bin .mul .i64 2 (ofN 0)) 6 = ((6 : Nat) : Int) := by rw [o0, mul_i64 hA (by omega), add_i64 hA (by omega)]; rfl
  refine gen_mnz (n := 6) (ps := #[3]) (t := 22) rfl rfl rfl e6 (by decide) (by rw [hP]; exact Tryd.func32) (by kernel_rfl) (by kernel_rfl) (by kernel_rfl) (by kernel_rfl) (by rw [hP]; exact Tryd.underlying22) ?_
  intro a cap hcap
  conv => cbv
  refine ⟨⟨⟨rfl, rfl, trivial⟩, List.sublist_cons_self _ _⟩, ?_⟩
  conv => cbv
  refine ⟨0, 0, rfl, o0.symm, Nat.le_refl _, by omega, ?_⟩
  intro a' n' c' hn' hc' ha'
  have hn0 : n' = 0 := hn'
  have hcc : c' = cap := by rw [hc']; exact Nat.sub_zero _
  have haa : a' = some a := by rw [ha', if_neg (by omega)]; simp [Addr.add]
  subst hn0 hcc haa
  conv => cbv
  refine ⟨0, [], .nil 0, .inl ⟨rfl, ?_⟩⟩
  conv => cbv
  exact hk _ _ _


theorem info8 : ∃ j, Tryd.prog.info? 5 = some j ∧ j.size = 1 ∧ j.zero = some (.int .u8 0) ∧ j.bytes = 1 := by
  have h : (Tryd.prog.info? 5).map (fun j => (j.size, j.zero, j.bytes)) = some (1, some (.int .u8 0), 1) := by kernel_rfl
  obtain ⟨j, h1, h2⟩ := Option.map_eq_some_iff.1 h
  simp only [Prod.mk.injEq] at h2
  exact ⟨j, h1, h2.1, h2.2.1, h2.2.2⟩

/-- What a byte written leaves behind. -/
def WbO (R : RO) (n : Nat) (ex : List (Nat × HB)) (m : Nat) (pre : List Row) (R' : RO) (hp' : List (Nat × HB)) (nx' : Nat) (rs2 : List Row) (r : SV) : Prop :=
  ∃ (a2 : Addr) (n2 c2 : Nat) (b2 : HB), hp' = (m, b2) :: (ex ++ [(0, bB (.p 0 0) (some a2) n2 c2)]) ∧ m ≤ nx' ∧ R' = R ∧ lab m r ∧ rs2 = pre ++ [fR (some a2) n2 c2] ∧ n2 = n + 1


set_option maxRecDepth 100000 in
set_option maxHeartbeats 2000000 in
theorem wbF1 {P : Program} (hP : P = Tryd.prog) (R : RO) (a : Option Addr) (n c : Nat) (hn : n ≤ 1000000) (b : Int) (hb : 0 ≤ b ∧ b ≤ 255) {K : RO → List (Nat × HB) → Nat → List Row → SV → Prop}
    (hg : ∀ (a2 : Addr) (n2 c2 : Nat) (r : SV), n2 = n + 1 → K R [(0, bB (.p 0 0) (some a2) n2 c2)] 1 [fR (some a2) n2 c2] r) :
    CallP P 29 [.p 0 0, .v (.int .u8 b)] R [(0, bB (.p 0 0) a n c)] 1 [fR a n c] K := by
  subst hP
  obtain ⟨j8, hj8, hj⟩ := info8
  have hw : CallP Tryd.prog 29 [.p 0 0, .v (.int .u8 b)] R [(0, bB (.p 0 0) a n c)] 1 [fR a n c] (WbO R n [] 1 []) := by
    refine callP_of_vc (fz := [714]) Tryd.func29 rfl (by decide) (Nat.le_of_ble_eq_true rfl) ok29 (by simp [labL, lab]) ?_
    rintro P ⟨bin, cmp, cnv, neg, com, bnot, beq, ofN, toN, at_, sub_, scmp, cat, sget, ssz, ssub, elem, fld_⟩ hP hA
    conv => cbv
    refine callP_in (fz := [1000 + 31]) hP hA Tryd.func26 rfl (by decide) rfl ok26 (by simp [labL, lab]) ?_
    conv => cbv
    obtain ⟨jj, hjj⟩ : ∃ i, P.info? 55 = some i := by rw [hP]; exact Option.isSome_iff_exists.1 (by kernel_rfl)
    refine raw_ptr_neq rfl rfl rfl (by rw [hP]; exact Tryd.underlying53) hjj ?_
    conv => cbv
    refine gen_app1 rfl rfl rfl rfl rfl (by rw [hP]; exact Tryd.underlying22) (by rw [hP]; exact Tryd.underlying22) (by rw [hP]; exact hj8) hj rfl rfl hb 0 (fR a n c) rfl rfl rfl rfl rfl rfl rfl hn ?_
    intro a2 n2 c2 hn2
    conv => cbv
    exact ⟨a2, n2, c2, _, rfl, Nat.le_of_ble_eq_true rfl, rfl, trivial, rfl, hn2⟩
  refine CallP.forget hw ?_
  rintro R' hp' nx' rs' r ⟨a2, n2, c2, b2, rfl, hnx, rfl, hlr, rfl, h2⟩
  refine ⟨[(0, bB (.p 0 0) (some a2) n2 c2)], 1, Nat.le_refl _, hnx, ?_, hlr, hg a2 n2 c2 r h2⟩
  intro l b3 hb3
  simp only [find_cons, List.nil_append] at hb3 ⊢
  by_cases hl0 : 0 = l
  · subst hl0
    simp at hb3
    subst hb3
    exact ⟨by simp, by omega, by simp [labL, lab]⟩
  · simp [hl0, find] at hb3

set_option maxRecDepth 100000 in
set_option maxHeartbeats 2000000 in
theorem wbF2 {P : Program} (hP : P = Tryd.prog) (R : RO) (a : Option Addr) (n c : Nat) (hn : n ≤ 1000000) (b : Int) (hb : 0 ≤ b ∧ b ≤ 255) (tb : HB) (htb : labL 2 tb.cs) (q : Row) {K : RO → List (Nat × HB) → Nat → List Row → SV → Prop}
    (hg : ∀ (a2 : Addr) (n2 c2 : Nat) (r : SV), n2 = n + 1 → K R [(1, tb), (0, bB (.p 0 0) (some a2) n2 c2)] 2 [q, fR (some a2) n2 c2] r) :
    CallP P 29 [.p 0 0, .v (.int .u8 b)] R [(1, tb), (0, bB (.p 0 0) a n c)] 2 [q, fR a n c] K := by
  subst hP
  obtain ⟨j8, hj8, hj⟩ := info8
  have hw : CallP Tryd.prog 29 [.p 0 0, .v (.int .u8 b)] R [(1, tb), (0, bB (.p 0 0) a n c)] 2 [q, fR a n c] (WbO R n [(1, tb)] 2 [q]) := by
    refine callP_of_vc (fz := [714]) Tryd.func29 rfl (by decide) (Nat.le_of_ble_eq_true rfl) ok29 (by simp [labL, lab]) ?_
    rintro P ⟨bin, cmp, cnv, neg, com, bnot, beq, ofN, toN, at_, sub_, scmp, cat, sget, ssz, ssub, elem, fld_⟩ hP hA
    conv => cbv
    refine callP_in (fz := [1000 + 31]) hP hA Tryd.func26 rfl (by decide) rfl ok26 (by simp [labL, lab]) ?_
    conv => cbv
    obtain ⟨jj, hjj⟩ : ∃ i, P.info? 55 = some i := by rw [hP]; exact Option.isSome_iff_exists.1 (by kernel_rfl)
    refine raw_ptr_neq rfl rfl rfl (by rw [hP]; exact Tryd.underlying53) hjj ?_
    conv => cbv
    refine gen_app1 rfl rfl rfl rfl rfl (by rw [hP]; exact Tryd.underlying22) (by rw [hP]; exact Tryd.underlying22) (by rw [hP]; exact hj8) hj rfl rfl hb 1 (fR a n c) rfl rfl rfl rfl rfl rfl rfl hn ?_
    intro a2 n2 c2 hn2
    conv => cbv
    exact ⟨a2, n2, c2, _, rfl, Nat.le_of_ble_eq_true rfl, rfl, trivial, rfl, hn2⟩
  refine CallP.forget hw ?_
  rintro R' hp' nx' rs' r ⟨a2, n2, c2, b2, rfl, hnx, rfl, hlr, rfl, h2⟩
  refine ⟨[(1, tb), (0, bB (.p 0 0) (some a2) n2 c2)], 2, Nat.le_refl _, hnx, ?_, hlr, hg a2 n2 c2 r h2⟩
  intro l b3 hb3
  simp only [find_cons, List.cons_append, List.nil_append] at hb3 ⊢
  by_cases hl1 : 1 = l
  · subst hl1
    simp at hb3
    subst hb3
    exact ⟨by simp, by omega, htb⟩
  simp only [hl1, if_false] at hb3
  by_cases hl0 : 0 = l
  · subst hl0
    simp at hb3
    subst hb3
    exact ⟨by simp, by omega, by simp [labL, lab]⟩
  · simp [hl0, find] at hb3


set_option maxRecDepth 100000 in
set_option maxHeartbeats 2000000 in
theorem strF1 {P : Program} (hP : P = Tryd.prog) (R : RO) (a : Addr) (n c : Nat) (hn : n ≤ 1000000) (hn0 : n ≠ 0) {K : RO → List (Nat × HB) → Nat → List Row → SV → Prop}
    (hg : ∀ bs, K R [(0, bB (.p 0 0) (some a) n c)] 1 [fR (some a) n c] (.v (.string bs))) :
    CallP P 21 [.p 0 0] R [(0, bB (.p 0 0) (some a) n c)] 1 [fR (some a) n c] K := by
  subst hP
  refine callP_of_vc (fz := []) Tryd.func21 rfl (by decide) (Nat.le_of_ble_eq_true rfl) ok21 (by simp [labL, lab]) ?_
  rintro P ⟨bin, cmp, cnv, neg, com, bnot, beq, ofN, toN, at_, sub_, scmp, cat, sget, ssz, ssub, elem, fld_⟩ hP hA
  conv => cbv
  have o := ofN_ hA n
  refine ⟨[0, 1, 2, 3, 5, 6, 7, 8, 9, 4, 10, 11], [10], mix hP, by kernel_rfl, ?_⟩
  conv => cbv
  refine gen_sdF rfl rfl rfl 0 (fR (some a) n c) rfl rfl rfl rfl rfl hn0 ?_
  conv => cbv
  refine ⟨⟨⟨rfl, trivial⟩, .refl _⟩, ?_⟩
  conv => cbv
  refine gen_ustrF rfl rfl rfl 0 (fR (some a) n c) rfl rfl rfl rfl hn0 (by rw [o]) rfl (by rw [hP]; exact Tryd.underlying67) (by rw [hP]; kernel_rfl) (by show n ≤ _; omega) ?_
  intro bs
  conv => cbv
  exact hg bs

set_option maxRecDepth 100000 in
set_option maxHeartbeats 2000000 in
theorem strF2 {P : Program} (hP : P = Tryd.prog) (R : RO) (a : Addr) (n c : Nat) (hn : n ≤ 1000000) (hn0 : n ≠ 0) (a3 : Option Addr) (n3 c3 : Nat) (q : Row) {K : RO → List (Nat × HB) → Nat → List Row → SV → Prop}
    (hg : ∀ bs, K R [(1, bB (.p 1 0) a3 n3 c3), (0, bB (.p 0 0) (some a) n c)] 2 [q, fR (some a) n c] (.v (.string bs))) :
    CallP P 21 [.p 0 0] R [(1, bB (.p 1 0) a3 n3 c3), (0, bB (.p 0 0) (some a) n c)] 2 [q, fR (some a) n c] K := by
  subst hP
  refine callP_of_vc (fz := []) Tryd.func21 rfl (by decide) (Nat.le_of_ble_eq_true rfl) ok21 (by simp [labL, lab]) ?_
  rintro P ⟨bin, cmp, cnv, neg, com, bnot, beq, ofN, toN, at_, sub_, scmp, cat, sget, ssz, ssub, elem, fld_⟩ hP hA
  conv => cbv
  have o := ofN_ hA n
  refine ⟨[0, 1, 2, 3, 5, 6, 7, 8, 9, 4, 10, 11], [10], mix hP, by kernel_rfl, ?_⟩
  conv => cbv
  refine gen_sdF rfl rfl rfl 1 (fR (some a) n c) rfl rfl rfl rfl rfl hn0 ?_
  conv => cbv
  refine ⟨⟨⟨rfl, rfl, trivial⟩, .refl _⟩, ?_⟩
  conv => cbv
  refine gen_ustrF rfl rfl rfl 1 (fR (some a) n c) rfl rfl rfl rfl hn0 (by rw [o]) rfl (by rw [hP]; exact Tryd.underlying67) (by rw [hP]; kernel_rfl) (by show n ≤ _; omega) ?_
  intro bs
  conv => cbv
  exact hg bs
end Go.Proofs.YtfkdaelfehibcaaDoor.Be
