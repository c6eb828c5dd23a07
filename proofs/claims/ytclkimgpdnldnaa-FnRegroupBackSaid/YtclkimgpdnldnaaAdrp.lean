/- Numbers in groups of bits: the plain laws. -/
import Derived.WalkKit
set_option linter.unusedSimpArgs false
set_option linter.unusedVariables false
namespace Go.Proofs.Ytclkimgpdnldnaa.Adr

/-- What groups of b bits stand for, one behind the other. -/
def vl (b : Nat) (xs : List Nat) : Nat := xs.foldl (fun a x => a * 2 ^ b + x) 0

theorem vl_snoc (b : Nat) (xs : List Nat) (x : Nat) : vl b (xs ++ [x]) = vl b xs * 2 ^ b + x := by simp [vl]

theorem vl_inj (b : Nat) : ∀ (n : Nat) (xs ys : List Nat), xs.length = n → ys.length = n → (∀ x ∈ xs, x < 2 ^ b) → (∀ x ∈ ys, x < 2 ^ b) → vl b xs = vl b ys → xs = ys
  | 0, xs, ys, h1, h2, _, _, _ => by rw [List.eq_nil_of_length_eq_zero h1, List.eq_nil_of_length_eq_zero h2]
  | n + 1, xs, ys, h1, h2, h3, h4, h5 => by
    have e1 : xs ≠ [] := fun h => by rw [h] at h1; cases h1
    have e2 : ys ≠ [] := fun h => by rw [h] at h2; cases h2
    rw [← List.dropLast_concat_getLast e1, ← List.dropLast_concat_getLast e2] at h5 ⊢
    rw [vl_snoc, vl_snoc] at h5
    have l1 := h3 _ (List.getLast_mem e1)
    have l2 := h4 _ (List.getLast_mem e2)
    have hp : 0 < 2 ^ b := Nat.pow_pos (by decide)
    have q := congrArg (· / 2 ^ b) h5
    have m := congrArg (· % 2 ^ b) h5
    simp only [Nat.mul_comm (vl b _), Nat.mul_add_div hp, Nat.mul_add_mod, Nat.div_eq_of_lt l1, Nat.div_eq_of_lt l2, Nat.mod_eq_of_lt l1, Nat.mod_eq_of_lt l2, Nat.add_zero] at q m
    rw [m, vl_inj b n xs.dropLast ys.dropLast (by simp; omega) (by simp; omega) (fun x hx => h3 x ((List.dropLast_sublist _).subset hx)) (fun x hx => h4 x ((List.dropLast_sublist _).subset hx)) q]

theorem div_split (x : Nat) {r e : Nat} (h : e ≤ r) : x / 2 ^ (r - e) = x / 2 ^ r * 2 ^ e + x % 2 ^ r / 2 ^ (r - e) := by
  have hr : 2 ^ r = 2 ^ (r - e) * 2 ^ e := by rw [← Nat.pow_add]; congr 1; omega
  have hp : 0 < 2 ^ (r - e) := Nat.pow_pos (by decide)
  have := Nat.div_add_mod x (2 ^ r)
  generalize hq : x / 2 ^ r = q at *
  generalize hm : x % 2 ^ r = m at *
  have h3 : 2 ^ (r - e) * 2 ^ e * q + m = m + q * 2 ^ e * 2 ^ (r - e) := by
    rw [Nat.add_comm, Nat.mul_assoc, Nat.mul_comm (2 ^ (r - e)), Nat.mul_comm (2 ^ e) q]
  rw [← this, hr, h3, Nat.add_mul_div_right _ _ hp, Nat.add_comm]

theorem low_split (x : Nat) {r e : Nat} (h : e ≤ r) (h8 : r ≤ 8) : x % 2 ^ r * 2 ^ (8 - r) * 2 ^ e % 256 = x % 2 ^ (r - e) * 2 ^ (8 - (r - e)) := by
  have h1 : 2 ^ (8 - r) * 2 ^ e = 2 ^ (8 - (r - e)) := by rw [← Nat.pow_add]; congr 1; omega
  have h2 : 256 = 2 ^ (r - e) * 2 ^ (8 - (r - e)) := by rw [← Nat.pow_add, show r - e + (8 - (r - e)) = 8 by omega]
  rw [Nat.mul_assoc, h1, h2, Nat.mul_mod_mul_right]
  congr 1
  exact Nat.mod_mod_of_dvd x ⟨2 ^ e, by rw [← Nat.pow_add]; congr 1; omega⟩

theorem top_split (m : Nat) {r e : Nat} (h : e ≤ r) (h8 : r ≤ 8) : m * 2 ^ (8 - r) / 2 ^ (8 - e) = m / 2 ^ (r - e) := by
  have h1 : 2 ^ (8 - e) = 2 ^ (r - e) * 2 ^ (8 - r) := by rw [← Nat.pow_add]; congr 1; omega
  rw [h1, Nat.mul_div_mul_right _ _ (Nat.pow_pos (by decide))]

/-- How far groups of f bits have been put into groups of t bits. -/
structure Cb (f t : Nat) (V : Nat) (k : Nat) (x rem b : Nat) (ys : List Nat) (fb nb : Nat) : Prop where
  hr : rem ≤ f
  hx : x < 2 ^ f
  hb : b = x % 2 ^ rem * 2 ^ (8 - rem)
  ft : fb < t
  hn : nb < 2 ^ fb
  hy : ∀ y ∈ ys, y < 2 ^ t
  hc : t * ys.length + fb = f * k + (f - rem)
  hv : vl t ys * 2 ^ fb + nb = V * 2 ^ (f - rem) + x / 2 ^ rem

/-- One step: e bits more. -/
theorem Cb.step {f t V k x rem b : Nat} {ys : List Nat} {fb nb e : Nat} (h : Cb f t V k x rem b ys fb nb) (hf : f ≤ 8) (ht : t ≤ 8) (he : e ≤ rem) (h2 : e ≤ t - fb) :
    b < 256 ∧ nb < 256 ∧ nb * 2 ^ e % 256 = nb * 2 ^ e ∧ (nb * 2 ^ e ||| b / 2 ^ (8 - e)) = nb * 2 ^ e + b / 2 ^ (8 - e) ∧ nb * 2 ^ e + b / 2 ^ (8 - e) < 2 ^ (fb + e) ∧ b * 2 ^ e % 256 = x % 2 ^ (rem - e) * 2 ^ (8 - (rem - e)) ∧
      vl t ys * 2 ^ (fb + e) + (nb * 2 ^ e + b / 2 ^ (8 - e)) = V * 2 ^ (f - (rem - e)) + x / 2 ^ (rem - e) ∧ b / 2 ^ (8 - e) < 256 := by
  have hr := h.hr
  have hn := h.hn
  have hft := h.ft
  have h8 : rem ≤ 8 := by omega
  have hm : x % 2 ^ rem < 2 ^ rem := Nat.mod_lt _ (Nat.pow_pos (by decide))
  have hb256 : b < 256 := by
    rw [h.hb]
    have : (256 : Nat) = 2 ^ rem * 2 ^ (8 - rem) := by rw [← Nat.pow_add, show rem + (8 - rem) = 8 by omega]
    rw [this]
    exact Nat.mul_lt_mul_of_pos_right hm (Nat.pow_pos (by decide))
  have htop : b / 2 ^ (8 - e) = x % 2 ^ rem / 2 ^ (rem - e) := by rw [h.hb]; exact top_split _ he h8
  have htlt : b / 2 ^ (8 - e) < 2 ^ e := by
    rw [htop]
    refine Nat.div_lt_of_lt_mul ?_
    rw [← Nat.pow_add, show rem - e + e = rem by omega]
    exact hm
  have hne : nb * 2 ^ e + 2 ^ e ≤ 2 ^ (fb + e) := by
    rw [Nat.pow_add, ← Nat.succ_mul]
    exact Nat.mul_le_mul_right _ hn
  have hle : 2 ^ (fb + e) ≤ 256 := by
    have : 2 ^ (fb + e) ≤ 2 ^ 8 := Nat.pow_le_pow_right (by decide) (by omega)
    simpa using this
  have hpe : 0 < 2 ^ e := Nat.pow_pos (by decide)
  have hnb : nb < 256 := by
    have : nb * 1 ≤ nb * 2 ^ e := Nat.mul_le_mul_left _ hpe
    omega
  refine ⟨hb256, hnb, Nat.mod_eq_of_lt (by omega), ?_, by omega, ?_, ?_, ?_⟩
  · rw [Nat.mul_comm nb]
    exact (Nat.two_pow_add_eq_or_of_lt htlt nb).symm
  · rw [h.hb]; exact low_split x he h8
  · have h1 := h.hv
    have h3 : f - (rem - e) = (f - rem) + e := by omega
    rw [h3, Nat.pow_add, Nat.pow_add, div_split x he, ← htop, ← Nat.mul_assoc, ← Nat.mul_assoc, ← Nat.add_assoc, ← Nat.add_assoc, ← Nat.add_mul, ← Nat.add_mul, h1]
  · have := Nat.div_le_self b (2 ^ (8 - e))
    omega

theorem Cb.go {f t V k x rem b : Nat} {ys : List Nat} {fb nb e : Nat} (h : Cb f t V k x rem b ys fb nb) (hf : f ≤ 8) (ht : t ≤ 8) (he : e ≤ rem) (h2 : e < t - fb) :
    Cb f t V k x (rem - e) (b * 2 ^ e % 256) ys (fb + e) (nb * 2 ^ e + b / 2 ^ (8 - e)) := by
  obtain ⟨s1, s2, s3, s4, s5, s6, s7, _⟩ := h.step hf ht he (Nat.le_of_lt h2)
  have := h.hr
  have := h.hc
  exact ⟨by omega, h.hx, s6, by omega, s5, h.hy, by omega, s7⟩

theorem Cb.full {f t V k x rem b : Nat} {ys : List Nat} {fb nb e : Nat} (h : Cb f t V k x rem b ys fb nb) (hf : f ≤ 8) (ht : t ≤ 8) (he : e ≤ rem) (h2 : fb + e = t) (h0 : 0 < t) :
    Cb f t V k x (rem - e) (b * 2 ^ e % 256) (ys ++ [nb * 2 ^ e + b / 2 ^ (8 - e)]) 0 0 := by
  obtain ⟨s1, s2, s3, s4, s5, s6, s7, _⟩ := h.step hf ht he (by omega)
  have h1 := h.hr
  have h3 := h.hc
  refine ⟨by omega, h.hx, s6, h0, by simp, fun y hy => ?_, ?_, ?_⟩
  · rcases List.mem_append.1 hy with hy | hy
    · exact h.hy y hy
    · simp at hy; rw [hy, ← h2]; exact s5
  · simp only [List.length_append, List.length_singleton, Nat.mul_add]; omega
  · rw [vl_snoc, Nat.pow_zero, Nat.mul_one, Nat.add_zero]; rw [h2] at s7; exact s7

/-- What has been put into groups when all is read. -/
structure Ce (f t : Nat) (xs ys : List Nat) (fb nb : Nat) : Prop where
  ft : fb < t
  hn : nb < 2 ^ fb
  hy : ∀ y ∈ ys, y < 2 ^ t
  hc : t * ys.length + fb = f * xs.length
  hv : vl t ys * 2 ^ fb + nb = vl f xs

theorem Ce.nil {f t : Nat} (h0 : 0 < t) : Ce f t [] [] 0 0 := ⟨h0, by simp, fun y hy => (by cases hy), by simp, by simp [vl]⟩

/-- The next group. -/
theorem Ce.next {f t : Nat} {xs ys : List Nat} {fb nb : Nat} (h : Ce f t xs ys fb nb) {y : Nat} (hy : y < 2 ^ f) (hf : f ≤ 8) : Cb f t (vl f xs) xs.length y f (y * 2 ^ (8 - f) % 256) ys fb nb := by
  have h1 := h.hc
  have h2 := h.hv
  refine ⟨Nat.le_refl _, hy, ?_, h.ft, h.hn, h.hy, by omega, ?_⟩
  · rw [Nat.mod_eq_of_lt hy, Nat.mod_eq_of_lt]
    have : (256 : Nat) = 2 ^ f * 2 ^ (8 - f) := by rw [← Nat.pow_add, show f + (8 - f) = 8 by omega]
    rw [this]
    exact Nat.mul_lt_mul_of_pos_right hy (Nat.pow_pos (by decide))
  · rw [h2]; simp [Nat.div_eq_of_lt hy]

theorem Cb.done {f t : Nat} {xs ys : List Nat} {x b fb nb : Nat} (h : Cb f t (vl f xs) xs.length x 0 b ys fb nb) : Ce f t (xs ++ [x]) ys fb nb := by
  have h1 := h.hc
  have h2 := h.hv
  refine ⟨h.ft, h.hn, h.hy, ?_, ?_⟩
  · simp only [List.length_append, List.length_singleton, Nat.mul_add]; omega
  · rw [vl_snoc, h2]; simp

/-- Bytes in groups of five, filled up, and back again. -/
theorem back {xs ys zs : List Nat} {fb nb fb' nb' : Nat} (hx : ∀ x ∈ xs, x < 256) (h : Ce 8 5 xs ys fb nb) {ys' : List Nat} (hy : ys' = if fb = 0 then ys else ys ++ [nb * 2 ^ (5 - fb)]) (h' : Ce 5 8 ys' zs fb' nb') :
    zs = xs ∧ nb' = 0 ∧ fb' ≤ 4 ∧ ∀ y ∈ ys', y < 32 := by
  have hv := h.hv
  have hv' := h'.hv
  have hc := h.hc
  have hc' := h'.hc
  have hft := h.ft
  have hft' := h'.ft
  have hn := h.hn
  have hn' := h'.hn
  have hyy := h.hy
  have key : ∃ p, p ≤ 4 ∧ 5 * ys'.length = 8 * xs.length + p ∧ vl 5 ys' = vl 8 xs * 2 ^ p ∧ ∀ y ∈ ys', y < 32 := by
    by_cases h0 : fb = 0
    · subst h0
      rw [if_pos rfl] at hy
      subst hy
      simp only [Nat.pow_zero, Nat.mul_one, Nat.lt_one_iff] at hv hn
      refine ⟨0, by omega, by omega, by rw [← hv, hn]; simp, fun y hy => by have := hyy y hy; simpa using this⟩
    · rw [if_neg h0] at hy
      subst hy
      have hlt : nb * 2 ^ (5 - fb) < 32 := by
        have : (32 : Nat) = 2 ^ fb * 2 ^ (5 - fb) := by rw [← Nat.pow_add, show fb + (5 - fb) = 5 by omega]
        rw [this]
        exact Nat.mul_lt_mul_of_pos_right hn (Nat.pow_pos (by decide))
      refine ⟨5 - fb, by omega, by simp only [List.length_append, List.length_singleton]; omega, ?_, fun y hy => ?_⟩
      · rw [vl_snoc, ← hv, Nat.add_mul, Nat.mul_assoc, ← Nat.pow_add, show fb + (5 - fb) = 5 by omega]
      · rcases List.mem_append.1 hy with hy | hy
        · have := hyy y hy; simpa using this
        · simp at hy; rw [hy]; exact hlt
  obtain ⟨p, p1, p2, p3, p4⟩ := key
  have hlen : zs.length = xs.length := by omega
  have hp : fb' = p := by omega
  subst hp
  rw [p3] at hv'
  have hpos : 0 < 2 ^ fb' := Nat.pow_pos (by decide)
  have q := congrArg (· / 2 ^ fb') hv'
  have m := congrArg (· % 2 ^ fb') hv'
  simp only [Nat.mul_comm _ (2 ^ fb'), Nat.mul_add_div hpos, Nat.mul_add_mod, Nat.div_eq_of_lt hn', Nat.mod_eq_of_lt hn', Nat.add_zero, Nat.mul_div_cancel_left _ hpos, Nat.mul_mod_right] at q m
  exact ⟨vl_inj 8 _ zs xs rfl hlen.symm h'.hy (fun x hx' => by have := hx x hx'; simpa using this) q, m, p1, p4⟩
end Go.Proofs.Ytclkimgpdnldnaa.Adr
