/- The bits that a header behind a chain must have, in plain terms. -/
import Derived.Test.YtekoipmmmoofpaaNbj
set_option linter.unusedSimpArgs false
set_option linter.unusedVariables false
namespace Go.Proofs.Ytekoipmmmoofpaa.Co
open Go Go.Se Go.Proofs Go.Proofs.Ytekoipmmmoofpaa.Ht

def tm (hs : List GH) (i : Nat) : Nat := match hs[i]? with
  | some g => g.time
  | none => 0

theorem tm_get {hs : List GH} {i : Nat} {g : GH} (h : hs[i]? = some g) : tm hs i = g.time := by rw [tm, h]

/-- The time that a window took, within bounds. -/
def clampI (ts fa d : Int) : Int := if d < ts / fa then ts / fa else if ts * fa < d then ts * fa else d

/-- The target of bits. -/
def tgo (b : Nat) : Nat := tgb (b / 16777216) (b % 8388608)

/-- The new target, before the limit. -/
def nwt (w : Nat) (ts fa : Int) (fi : Bool) (hs : List GH) : Nat :=
  tgo (if fi = true then bt hs (hs.length - w) else bt hs (hs.length - 1)) * (clampI ts fa ((tm hs (hs.length - 1) : Int) - (tm hs (hs.length - w) : Int))).toNat / ts.toNat

def NB (w lb : Nat) (ts fa : Int) (re : Bool) (ra : Int) (fi : Bool) (L : Nat) (hs : List GH) (sec : Int) : Nat :=
  if hs.length % w ≠ 0 then
    if re = true then (if (tm hs (hs.length - 1) : Int) + ra < sec then lb else prv w lb hs (hs.length - 1)) else bt hs (hs.length - 1)
  else cmpt (if L < nwt w ts fa fi hs then L else nwt w ts fa fi hs)

/-- Bits of a target above 0 that 32 bytes hold. -/
def Gd (g : GH) : Prop := g.bits / 8388608 % 2 = 0 ∧ g.bits % 8388608 ≠ 0 ∧ tgo g.bits ≠ 0 ∧ tgo g.bits < 2 ^ 256

theorem NB_a {w lb : Nat} {ts fa : Int} {re : Bool} {ra : Int} {fi : Bool} {L : Nat} {hs : List GH} {sec : Int} {X n : Nat} (h : X = NB w lb ts fa re ra fi L hs sec) (hl : hs.length = n) (h1 : n % w ≠ 0) (h2 : re = false) : X = bt hs (n - 1) := by
  subst hl
  rw [h, NB, if_pos h1, h2]
  rfl

theorem NB_b {w lb : Nat} {ts fa : Int} {re : Bool} {ra : Int} {fi : Bool} {L : Nat} {hs : List GH} {sec : Int} {X n : Nat} (h : X = NB w lb ts fa re ra fi L hs sec) (hl : hs.length = n) (h1 : n % w ≠ 0) (h2 : re = true) (h3 : (tm hs (n - 1) : Int) + ra < sec) : X = lb := by
  subst hl
  rw [h, NB, if_pos h1, if_pos h2, if_pos h3]

theorem NB_c {w lb : Nat} {ts fa : Int} {re : Bool} {ra : Int} {fi : Bool} {L : Nat} {hs : List GH} {sec : Int} {X n : Nat} (h : X = NB w lb ts fa re ra fi L hs sec) (hl : hs.length = n) (h1 : n % w ≠ 0) (h2 : re = true) (h3 : ¬ (tm hs (n - 1) : Int) + ra < sec) : X = prv w lb hs (n - 1) := by
  subst hl
  rw [h, NB, if_pos h1, if_pos h2, if_neg h3]

theorem NB_d {w lb : Nat} {ts fa : Int} {re : Bool} {ra : Int} {fi : Bool} {L : Nat} {hs : List GH} {sec : Int} {X n : Nat} (h : X = NB w lb ts fa re ra fi L hs sec) (hl : hs.length = n) (h1 : n % w = 0) (s N : Nat) (ob t : Nat) (hs_ : (s : Int) = clampI ts fa ((tm hs (n - 1) : Int) - (tm hs (n - w) : Int)))
    (ho : ob = if fi = true then bt hs (n - w) else bt hs (n - 1)) (ht : (t : Int) = ts) (hN : N = tgo ob * s / t) : X = cmpt (if L < N then L else N) := by
  subst hl
  have hx : nwt w ts fa fi hs = N := by
    rw [nwt, ← ho, ← hs_, ← ht, hN]
    rfl
  rw [h, NB, if_neg (fun h => h h1), hx]

theorem clamp_bd {ts fa d : Int} (h0 : 1 ≤ ts / fa) (h1 : ts / fa ≤ ts * fa) (h2 : ts * fa ≤ 160000) : 1 ≤ clampI ts fa d ∧ clampI ts fa d ≤ 160000 := by
  unfold clampI
  split
  · omega
  · split <;> omega

theorem clamp_minmax {ts fa d : Int} (h1 : ts / fa ≤ ts * fa) : max (ts / fa) (min (ts * fa) d) = clampI ts fa d := by
  unfold clampI
  split
  · omega
  · split <;> omega

theorem div_le_mul {ts fa : Int} (h1 : 0 ≤ ts) (h2 : 1 ≤ fa) : ts / fa ≤ ts * fa := by
  have h3 : ts / fa ≤ ts := Int.ediv_le_self _ h1
  have h4 : ts * 1 ≤ ts * fa := Int.mul_le_mul_of_nonneg_left h2 h1
  omega

theorem cn_le {v k : Nat} (h : v < 4294967296 ^ k) : (cn v).length ≤ k := by
  by_cases h0 : v = 0
  · rw [h0, cn0]; simp
  · obtain ⟨h1, h2⟩ := cn_len v h0
    have := (Nat.pow_lt_pow_iff_right (by decide : 1 < 4294967296)).1 (Nat.lt_of_le_of_lt h2 h)
    omega

theorem dl_sz {v k : Nat} (h : v < 256 ^ k) : (dl v).length ≤ k := by
  by_cases h0 : v = 0
  · rw [h0, dl0]; simp
  · obtain ⟨h1, h2⟩ := dl_len v h0
    have := (Nat.pow_lt_pow_iff_right (by decide : 1 < 256)).1 (Nat.lt_of_le_of_lt h2 h)
    omega

theorem pw2 (a b e : Nat) (h : e = a + b) : 2 ^ e = 2 ^ a * 2 ^ b := by rw [h, Nat.pow_add]

theorem nw_sz {Y s t : Nat} (hY : Y < 2 ^ 256) (hs : s ≤ 160000) : (cn Y).length ≤ 8 ∧ (cn (Y * s)).length ≤ 9 ∧ (cn (Y * s / t)).length ≤ 9 ∧ (dl (Y * s / t)).length ≤ 36 := by
  obtain ⟨e, he⟩ : ∃ e, e = 288 := ⟨_, rfl⟩
  have h1 : Y * s < 2 ^ e := by
    rw [pw2 256 32 e he]
    have h3 : Y * s ≤ Y * 160000 := Nat.mul_le_mul_left _ hs
    have h4 : Y * 160000 ≤ 2 ^ 256 * 160000 := Nat.mul_le_mul_right _ (Nat.le_of_lt hY)
    have h5 : 2 ^ 256 * 160000 < 2 ^ 256 * 2 ^ 32 := Nat.mul_lt_mul_of_pos_left (by decide) (Nat.pow_pos (by decide))
    exact Nat.lt_of_le_of_lt (Nat.le_trans h3 h4) h5
  have h2 : Y * s / t < 2 ^ e := Nat.lt_of_le_of_lt (Nat.div_le_self _ _) h1
  exact ⟨cn_le (by rw [pw]; exact hY), cn_le (by rw [pw, show 32 * 9 = e from he.symm]; exact h1), cn_le (by rw [pw, show 32 * 9 = e from he.symm]; exact h2), dl_sz (by rw [pw8, show 8 * 36 = e from he.symm]; exact h2)⟩

theorem lm_sz {L : Nat} (h : (dl L).length ≤ 32) : (cn L).length ≤ 8 ∧ L < 2 ^ 256 := by
  have h1 := dl_lt L
  have h2 : L < 2 ^ 256 := by
    rw [pw8] at h1
    exact Nat.lt_of_lt_of_le h1 (Nat.pow_le_pow_right (by decide) (by omega))
  exact ⟨cn_le (by rw [pw]; exact h2), h2⟩

theorem dl_top {v : Nat} (h : v ≠ 0) : (dl v).reverse.getD 0 0 ≠ 0 := by
  obtain ⟨h1, h2⟩ := dl_len v h
  have h3 := dl_lt v
  obtain ⟨d, hd⟩ : ∃ d, (dl v)[(dl v).length - 1]? = some d := ⟨_, List.getElem?_eq_getElem (by omega)⟩
  have h4 := dl_get v _ d hd
  have h5 : (dl v).reverse[0]? = some d := by rw [List.getElem?_reverse (by omega)]; simpa using hd
  rw [List.getD_eq_getElem?_getD, h5]
  show d ≠ 0
  rw [h4]
  have h6 : 256 ^ (dl v).length = 256 * 256 ^ ((dl v).length - 1) := by
    obtain ⟨k, hk⟩ : ∃ k, (dl v).length = k + 1 := ⟨(dl v).length - 1, by omega⟩
    rw [hk, Nat.add_sub_cancel, Nat.pow_succ, Nat.mul_comm]
  have h7 : v / 256 ^ ((dl v).length - 1) < 256 := (Nat.div_lt_iff_lt_mul (Nat.pow_pos (by decide))).2 (by omega)
  have h8 : 1 ≤ v / 256 ^ ((dl v).length - 1) := Nat.div_pos h2 (Nat.pow_pos (by decide))
  omega
end Go.Proofs.Ytekoipmmmoofpaa.Co
