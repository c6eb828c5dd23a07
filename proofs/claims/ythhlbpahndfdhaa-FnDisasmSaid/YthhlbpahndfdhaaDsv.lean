/- A builder's writes. -/
import Derived.Test.YthhlbpahndfdhaaDsu
import Derived.Test.YthhlbpahndfdhaaTydd
set_option linter.unusedSimpArgs false
set_option linter.unusedVariables false
namespace Go.Proofs.Ythhlbpahndfdhaa.Ds
open Go Go.Se Go.Proofs Go.Proofs.Ythhlbpahndfdhaa.Tydd

/-- A builder's block. -/
abbrev bB (ad : SV) (a : Option Addr) (n c : Nat) : HB := ⟨44, [ad, .v (.slice a n c)]⟩

theorem CallP.forget {P : Program} {f : Nat} {args : List SV} {R : RO} {hp : List (Nat × HB)} {nx : Nat} {rs : List Row} {K0 K : RO → List (Nat × HB) → Nat → List Row → SV → Prop} (h : CallP P f args R hp nx rs K0)
    (hk : ∀ R' hp' nx' rs' r, K0 R' hp' nx' rs' r → ∃ hp2 nx2, nx ≤ nx2 ∧ nx2 ≤ nx' ∧ (∀ l b, find hp2 l = some b → find hp' l = some b ∧ l < nx2 ∧ labL nx2 b.cs) ∧ lab nx2 r ∧ K R' hp2 nx2 rs' r) : CallP P f args R hp nx rs K :=
  ⟨h.fn, fun ρ w hr => (h.go ρ w hr).mono fun e w' ⟨R', hp', nx', rs', ρ', r, q1, q2, q3, q4, q5, q6, q7, qr, q8, q9, q10⟩ => by
    obtain ⟨hp2, nx2, k1, k2, k3, k4, k5⟩ := hk R' hp' nx' rs' r q10
    exact ⟨R', hp2, nx2, rs', ρ', r, q1, k1, fun l h1 h2 => q3 l h1 (by omega), q4, q5,
      ⟨fun l b hb => q6.blk l b (k3 l b hb).1, fun l l' h1 h2 => q6.inj l l' (by omega) (by omega), fun l hl => q6.lt l (by omega), q6.ro, fun l b hb => q6.dis l b (k3 l b hb).1, fun l b hb => (k3 l b hb).2, q6.row,
        fun q hq g hg => ⟨(q6.rdis q hq g hg).1, fun l b hb => (q6.rdis q hq g hg).2 l b (k3 l b hb).1⟩, q6.rpair⟩, q7, qr, q8, k4, k5⟩⟩




set_option maxRecDepth 100000 in
set_option maxHeartbeats 2000000 in
theorem wsC {P : Program} (hP : P = Try.prog) (R : RO) (ad : SV) (had : ad = .v (.pointer none) ∨ ad = .p 0 0) (a : Option Addr) (n c : Nat) (zs : List Int) (rs : List Row) (hb : Base1 rs [] a n c 5 1 (ints .u8 zs)) (hz : zs.length = n) (hn : n ≤ 1000000000)
    (x : ByteArray) (ys : List Int) (hx : SB x ys) (hys : ys.length ≤ 1000000) (tb tj : HB) {K : RO → List (Nat × HB) → Nat → List Row → SV → Prop}
    (hg : ∀ (a2 : Option Addr) (n2 c2 : Nat) (rs2 : List Row) (r : SV), Base1 rs2 [] a2 n2 c2 5 1 (ints .u8 (zs ++ ys)) → n2 = n + ys.length → (n2 ≠ 0 → a2.isSome = true) → K R [(2, tb), (1, tj), (0, ⟨44, [.p 0 0, .v (.slice a2 n2 c2)]⟩)] 3 rs2 r) :
    CallP P 20 [.p 0 0, .v (.string x)] R [(2, tb), (1, tj), (0, ⟨44, [ad, .v (.slice a n c)]⟩)] 3 rs K := by
  subst hP
  have hsz := hx.size
  rcases had with rfl | rfl
  · refine callP_of_vc (fz := []) Try.func20 rfl (by decide) (Nat.le_of_ble_eq_true rfl) ok20 (by simp [labL, lab]) ?_
    rintro P ⟨bin, cmp, cnv, neg, com, bnot, beq, ofN, toN, at_, sub_, scmp, cat, sget, ssz, ssub, elem, fld_⟩ hP hA
    conv => cbv
    refine callP_in (fz := [1000 + 34]) hP hA Try.func31 rfl (by decide) rfl ok31 (by simp [labL, lab]) ?_
    conv => cbv
    refine raw_to_unsafe rfl rfl rfl (Nat.zero_lt_succ _) (by rw [hP]; exact Try.underlying42) (by rw [hP]; exact Try.underlying80) (by rw [hP]; kernel_rfl) (Nat.le_of_ble_eq_true rfl) ?_
    conv => cbv
    refine gen_extern (e := Extern.AbiNoEscape.same) (.p 0 0) rfl rfl rfl (by rw [hP]; exact Try.func34) (by kernel_rfl) (by kernel_rfl) (by kernel_rfl) (by kernel_rfl) (fun ρ w _ => rfl) (Nat.le_of_ble_eq_true rfl) ?_
    conv => cbv
    obtain ⟨jj, hjj⟩ : ∃ i, P.info? 44 = some i := by rw [hP]; exact Option.isSome_iff_exists.1 (by kernel_rfl)
    refine raw_from_unsafe rfl rfl rfl (by rw [hP]; exact Try.underlying80) (by rw [hP]; exact Try.underlying42) hjj (by rw [hP]; kernel_rfl) (Nat.le_of_ble_eq_true rfl) ?_
    conv => cbv
    refine ⟨n, ints .u8 zs, _, _, _, x.size, _, hb.base, .refl _, .str x rfl, by omega, by omega, ?_⟩
    intro a2 n2 c2 z2 hn2 hz2 hs2
    conv => cbv
    have hzz : z2 = ints .u8 (zs ++ ys) := by rw [hz2, show byteCells x = ints .u8 ys from hx]; simp [ints]
    rw [hzz]
    exact hg a2 n2 c2 _ _ Base1.row (by rw [hn2, hsz]) hs2
  · refine callP_of_vc (fz := []) Try.func20 rfl (by decide) (Nat.le_of_ble_eq_true rfl) ok20 (by simp [labL, lab]) ?_
    rintro P ⟨bin, cmp, cnv, neg, com, bnot, beq, ofN, toN, at_, sub_, scmp, cat, sget, ssz, ssub, elem, fld_⟩ hP hA
    conv => cbv
    refine callP_in (fz := [1000 + 34]) hP hA Try.func31 rfl (by decide) rfl ok31 (by simp [labL, lab]) ?_
    conv => cbv
    obtain ⟨jj, hjj⟩ : ∃ i, P.info? 44 = some i := by rw [hP]; exact Option.isSome_iff_exists.1 (by kernel_rfl)
    refine raw_ptr_neq rfl rfl rfl (by rw [hP]; exact Try.underlying42) hjj ?_
    conv => cbv
    refine ⟨n, ints .u8 zs, _, _, _, x.size, _, hb.base, .refl _, .str x rfl, by omega, by omega, ?_⟩
    intro a2 n2 c2 z2 hn2 hz2 hs2
    conv => cbv
    have hzz : z2 = ints .u8 (zs ++ ys) := by rw [hz2, show byteCells x = ints .u8 ys from hx]; simp [ints]
    rw [hzz]
    exact hg a2 n2 c2 _ _ Base1.row (by rw [hn2, hsz]) hs2


/-- What a byte written leaves behind. -/
def WbOut (R : RO) (n : Nat) (zs : List Int) (b : Int) (tb tj : HB) (R' : RO) (hp' : List (Nat × HB)) (nx' : Nat) (rs2 : List Row) (r : SV) : Prop :=
  ∃ (a2 : Option Addr) (n2 c2 : Nat) (b2 : HB), hp' = [(3, b2), (2, tb), (1, tj), (0, ⟨44, [.p 0 0, .v (.slice a2 n2 c2)]⟩)] ∧ 3 ≤ nx' ∧ R' = R ∧ lab 3 r ∧ Base1 rs2 [] a2 n2 c2 5 1 (ints .u8 (zs ++ [b])) ∧ n2 = n + 1 ∧ (n2 ≠ 0 → a2.isSome = true)

set_option maxRecDepth 100000 in
set_option maxHeartbeats 2000000 in
theorem wbC {P : Program} (hP : P = Try.prog) (R : RO) (ad : SV) (had : ad = .v (.pointer none) ∨ ad = .p 0 0) (a : Option Addr) (n c : Nat) (zs : List Int) (rs : List Row) (hb : Base1 rs [] a n c 5 1 (ints .u8 zs)) (hz : zs.length = n) (hn : n ≤ 1000000000)
    (b : Int) (tb tj : HB) (htb : labL 3 tb.cs) (htj : labL 3 tj.cs) {K : RO → List (Nat × HB) → Nat → List Row → SV → Prop}
    (hg : ∀ (a2 : Option Addr) (n2 c2 : Nat) (rs2 : List Row) (r : SV), Base1 rs2 [] a2 n2 c2 5 1 (ints .u8 (zs ++ [b])) → n2 = n + 1 → (n2 ≠ 0 → a2.isSome = true) → K R [(2, tb), (1, tj), (0, ⟨44, [.p 0 0, .v (.slice a2 n2 c2)]⟩)] 3 rs2 r) :
    CallP P 17 [.p 0 0, .v (.int .u8 b)] R [(2, tb), (1, tj), (0, ⟨44, [ad, .v (.slice a n c)]⟩)] 3 rs K := by
  subst hP
  have hw : CallP Try.prog 17 [.p 0 0, .v (.int .u8 b)] R [(2, tb), (1, tj), (0, ⟨44, [ad, .v (.slice a n c)]⟩)] 3 rs (WbOut R n zs b tb tj) := by
    rcases had with rfl | rfl
    · refine callP_of_vc (fz := []) Try.func17 rfl (by decide) (Nat.le_of_ble_eq_true rfl) ok17 (by simp [labL, lab]) ?_
      rintro P ⟨bin, cmp, cnv, neg, com, bnot, beq, ofN, toN, at_, sub_, scmp, cat, sget, ssz, ssub, elem, fld_⟩ hP hA
      conv => cbv
      refine callP_in (fz := [1000 + 34]) hP hA Try.func31 rfl (by decide) rfl ok31 (by simp [labL, lab]) ?_
      conv => cbv
      refine raw_to_unsafe rfl rfl rfl (Nat.zero_lt_succ _) (by rw [hP]; exact Try.underlying42) (by rw [hP]; exact Try.underlying80) (by rw [hP]; kernel_rfl) (Nat.le_of_ble_eq_true rfl) ?_
      conv => cbv
      refine gen_extern (e := Extern.AbiNoEscape.same) (.p 0 0) rfl rfl rfl (by rw [hP]; exact Try.func34) (by kernel_rfl) (by kernel_rfl) (by kernel_rfl) (by kernel_rfl) (fun ρ w _ => rfl) (Nat.le_of_ble_eq_true rfl) ?_
      conv => cbv
      obtain ⟨jj, hjj⟩ : ∃ i, P.info? 44 = some i := by rw [hP]; exact Option.isSome_iff_exists.1 (by kernel_rfl)
      refine raw_from_unsafe rfl rfl rfl (by rw [hP]; exact Try.underlying80) (by rw [hP]; exact Try.underlying42) hjj (by rw [hP]; kernel_rfl) (Nat.le_of_ble_eq_true rfl) ?_
      conv => cbv
      refine ⟨n, ints .u8 zs, _, _, _, 1, [.int .u8 b], hb.base, .refl _, .own _ _ 1 1 _ _ rfl rfl rfl (by simp [Value.oneCell']), by omega, by omega, ?_⟩
      intro a2 n2 c2 z2 hn2 hz2 hs2
      conv => cbv
      have hzz : z2 = ints .u8 (zs ++ [b]) := by rw [hz2]; simp [ints]
      rw [hzz]
      refine ⟨a2, n2, c2, _, rfl, Nat.le_of_ble_eq_true rfl, rfl, trivial, Base1.row, hn2, hs2⟩
    · refine callP_of_vc (fz := []) Try.func17 rfl (by decide) (Nat.le_of_ble_eq_true rfl) ok17 (by simp [labL, lab]) ?_
      rintro P ⟨bin, cmp, cnv, neg, com, bnot, beq, ofN, toN, at_, sub_, scmp, cat, sget, ssz, ssub, elem, fld_⟩ hP hA
      conv => cbv
      refine callP_in (fz := [1000 + 34]) hP hA Try.func31 rfl (by decide) rfl ok31 (by simp [labL, lab]) ?_
      conv => cbv
      obtain ⟨jj, hjj⟩ : ∃ i, P.info? 44 = some i := by rw [hP]; exact Option.isSome_iff_exists.1 (by kernel_rfl)
      refine raw_ptr_neq rfl rfl rfl (by rw [hP]; exact Try.underlying42) hjj ?_
      conv => cbv
      refine ⟨n, ints .u8 zs, _, _, _, 1, [.int .u8 b], hb.base, .refl _, .own _ _ 1 1 _ _ rfl rfl rfl (by simp [Value.oneCell']), by omega, by omega, ?_⟩
      intro a2 n2 c2 z2 hn2 hz2 hs2
      conv => cbv
      have hzz : z2 = ints .u8 (zs ++ [b]) := by rw [hz2]; simp [ints]
      rw [hzz]
      refine ⟨a2, n2, c2, _, rfl, Nat.le_of_ble_eq_true rfl, rfl, trivial, Base1.row, hn2, hs2⟩
  refine CallP.forget hw ?_
  rintro R' hp' nx' rs' r ⟨a2, n2, c2, b2, rfl, hnx, rfl, hlr, h1, h2, h3⟩
  refine ⟨_, 3, Nat.le_refl _, hnx, ?_, hlr, hg a2 n2 c2 rs' r h1 h2 h3⟩
  intro l b3 hb3
  simp only [find_cons] at hb3 ⊢
  by_cases hl2 : 2 = l
  · subst hl2
    simp at hb3
    subst hb3
    exact ⟨by simp, by omega, htb⟩
  simp only [hl2, if_false] at hb3
  by_cases hl1 : 1 = l
  · subst hl1
    simp at hb3
    subst hb3
    exact ⟨by simp, by omega, htj⟩
  simp only [hl1, if_false] at hb3
  by_cases hl0 : 0 = l
  · subst hl0
    simp at hb3
    subst hb3
    exact ⟨by simp, by omega, by simp [labL, lab]⟩
  · simp [hl0, find] at hb3
end Go.Proofs.Ythhlbpahndfdhaa.Ds
