/- Texts of base58: plain. -/
import Derived.Test.YtepfbdfbfimefaaDoorNba
set_option linter.unusedSimpArgs false
set_option linter.unusedVariables false
namespace Go.Proofs.YtepfbdfbfimefaaDoor.Bf
open Go Go.Se Go.Proofs.YtepfbdfbfimefaaDoor.Co Go.Proofs.YtepfbdfbfimefaaDoor.Ht

/-- A number's digits in base 58, the lowest first. -/
def dsL (v : Nat) : List Nat := if h : v = 0 then [] else v % 58 :: dsL (v / 58)
termination_by v
decreasing_by omega

theorem dsL0 : dsL 0 = [] := by rw [dsL]; rfl
theorem dsLS {v : Nat} (h : v ≠ 0) : dsL v = v % 58 :: dsL (v / 58) := by rw [dsL, dif_neg h]

/-- The lowest digits, some of them. -/
def dsN : Nat → Nat → List Nat
  | 0, _ => []
  | k + 1, m => m % 58 :: dsN k (m / 58)

theorem dsN_L : ∀ (k m : Nat), m / 58 ^ k ≠ 0 → dsN k m ++ dsL (m / 58 ^ k) = dsL m
  | 0, m, _ => by simp [dsN]
  | k + 1, m, h => by
    have e : m / 58 ^ (k + 1) = m / 58 / 58 ^ k := by rw [Nat.pow_succ, Nat.mul_comm, Nat.div_div_eq_div_mul]
    have h0 : m ≠ 0 := fun e0 => h (by rw [e0]; exact Nat.zero_div _)
    rw [e] at h ⊢
    rw [dsN, List.cons_append, dsN_L k (m / 58) h, dsLS h0]

theorem dsN_mod : ∀ (k m : Nat), dsN k (m % 58 ^ k) = dsN k m
  | 0, _ => rfl
  | k + 1, m => by
    have e1 : m % 58 ^ (k + 1) % 58 = m % 58 := by
      rw [Nat.pow_succ, Nat.mul_comm]
      exact Nat.mod_mul_right_mod m 58 (58 ^ k)
    have e2 : m % 58 ^ (k + 1) / 58 = m / 58 % 58 ^ k := by
      rw [Nat.pow_succ, Nat.mul_comm]
      exact Nat.mod_mul_right_div_self m 58 (58 ^ k)
    rw [dsN, dsN, e1, e2, dsN_mod k]

theorem dsL_big {v : Nat} (h : v / 58 ^ 10 ≠ 0) : dsL v = dsN 10 (v % 58 ^ 10) ++ dsL (v / 58 ^ 10) := by rw [dsN_mod, dsN_L 10 v h]

theorem dsL_lt : ∀ (v : Nat), ∀ d ∈ dsL v, d < 58 := by
  intro v
  induction v using Nat.strongRecOn with
  | _ v ih =>
    intro d hd
    by_cases h : v = 0
    · rw [h, dsL0] at hd; cases hd
    · rw [dsLS h] at hd
      rcases List.mem_cons.1 hd with rfl | hd
      · exact Nat.mod_lt _ (by decide)
      · exact ih _ (by omega) d hd

theorem dsN_lt : ∀ (k m : Nat), ∀ d ∈ dsN k m, d < 58
  | 0, _, d, h => by cases h
  | k + 1, m, d, h => by
    rcases List.mem_cons.1 h with rfl | h
    · exact Nat.mod_lt _ (by decide)
    · exact dsN_lt k _ d h

/-- How many digits there are at most. -/
theorem dsL_len : ∀ (k v : Nat), v < 58 ^ k → (dsL v).length ≤ k
  | 0, v, h => by have : v = 0 := by simpa using h
                  rw [this, dsL0]; exact Nat.le_refl _
  | k + 1, v, h => by
    by_cases h0 : v = 0
    · rw [h0, dsL0]; exact Nat.zero_le _
    · rw [dsLS h0, List.length_cons]
      have := dsL_len k (v / 58) (by rw [Nat.div_lt_iff_lt_mul (by decide), ← Nat.pow_succ]; exact h)
      omega

/-- The value of digits, the highest first. -/
def hv (l : List Nat) (a : Nat) : Nat := l.foldl (fun a d => a * 58 + d) a

theorem hv_app (l m : List Nat) (a : Nat) : hv (l ++ m) a = hv m (hv l a) := by unfold hv; rw [List.foldl_append]
theorem hv_snoc (l : List Nat) (d a : Nat) : hv (l ++ [d]) a = hv l a * 58 + d := by rw [hv_app]; rfl

theorem hv_shift : ∀ (l : List Nat) (a : Nat), hv l a = a * 58 ^ l.length + hv l 0
  | [], a => by simp [hv]
  | d :: l, a => by
    have e1 : hv (d :: l) a = hv l (a * 58 + d) := rfl
    have e2 : hv (d :: l) 0 = hv l (0 * 58 + d) := rfl
    rw [e1, e2, hv_shift l (a * 58 + d), hv_shift l (0 * 58 + d), List.length_cons, Nat.pow_succ, Nat.add_mul, Nat.add_mul, Nat.zero_mul, Nat.zero_add, Nat.mul_assoc, Nat.mul_comm 58 (58 ^ l.length), Nat.add_assoc]

theorem hv_lt : ∀ {l : List Nat}, (∀ d ∈ l, d < 58) → hv l 0 < 58 ^ l.length
  | [], _ => by decide
  | d :: l, h => by
    have e2 : hv (d :: l) 0 = hv l (0 * 58 + d) := rfl
    have ih := hv_lt (l := l) fun x hx => h x (List.mem_cons_of_mem _ hx)
    have hd := h d (List.mem_cons_self ..)
    rw [e2, hv_shift, List.length_cons, Nat.pow_succ, Nat.zero_mul, Nat.zero_add]
    have h1 : d * 58 ^ l.length ≤ 57 * 58 ^ l.length := Nat.mul_le_mul_right _ (by omega)
    omega

theorem hv_dsL (v : Nat) : hv (dsL v).reverse 0 = v := by
  induction v using Nat.strongRecOn with
  | _ v ih =>
    by_cases h : v = 0
    · rw [h, dsL0]; rfl
    · rw [dsLS h, List.reverse_cons, hv_snoc, ih _ (by omega)]
      omega

theorem hv_zeros (n : Nat) (l : List Nat) : hv (List.replicate n 0 ++ l) 0 = hv l 0 := by
  induction n with
  | zero => rfl
  | succ n ih => rw [List.replicate_succ]; exact ih

/-- The digits' bytes. -/
def alph : List Int := [49, 50, 51, 52, 53, 54, 55, 56, 57, 65, 66, 67, 68, 69, 70, 71, 72, 74, 75, 76, 77, 78, 80, 81, 82, 83, 84, 85, 86, 87, 88, 89, 90, 97, 98, 99, 100, 101, 102, 103, 104, 105, 106, 107, 109, 110, 111, 112, 113, 114, 115, 116, 117, 118, 119, 120, 121, 122]
def ch (d : Nat) : Int := alph.getD d 0
/-- What a byte stands for; 255: nothing. -/
def dv (x : Int) : Nat := let i := alph.findIdx (· = x); if i < 58 then i else 255

theorem alph_get {d : Nat} (h : d < 58) : alph[d]? = some (ch d) := by
  unfold ch
  exact getD_get h

theorem dv_ch : ∀ d, d < 58 → dv (ch d) = d := by decide
theorem ch_one : ∀ d, d < 58 → ch d = 49 → d = 0 := by decide
theorem ch_bd : ∀ d, d < 58 → 49 ≤ ch d ∧ ch d ≤ 122 := by decide
theorem dv_lt {x : Int} (h : dv x ≠ 255) : dv x < 58 := by
  unfold dv at *
  simp only at *
  split at h
  · rename_i h1; rw [if_pos h1]; exact h1
  · exact absurd rfl h
theorem ch_dv {x : Int} (h : dv x ≠ 255) : ch (dv x) = x := by
  have h1 := dv_lt h
  have h2 : dv x = alph.findIdx (· = x) := by
    unfold dv at *
    simp only at *
    split at h
    · rename_i h1; rw [if_pos h1]
    · exact absurd rfl h
  rw [h2] at h1 ⊢
  have h3 := List.findIdx_getElem (xs := alph) (p := (· = x)) (w := h1)
  unfold ch
  rw [List.getD_eq_getElem?_getD, List.getElem?_eq_getElem h1]
  simpa using h3

theorem dv_big {x : Int} (h : 123 ≤ x) : dv x = 255 := by
  by_cases h1 : dv x = 255
  · exact h1
  · have h2 := ch_bd _ (dv_lt h1)
    rw [ch_dv h1] at h2
    omega

/-- A text's digits, whether all of its bytes are digits, its value, its ones ahead. -/
def Good (xs : List Int) : Prop := ∀ x ∈ xs, dv x ≠ 255
def hx (xs : List Int) : Nat := hv (xs.map dv) 0
def ones : List Int → Nat
  | [] => 0
  | x :: r => if x = 49 then ones r + 1 else 0
def zs0 : List Int → Nat
  | [] => 0
  | x :: r => if x = 0 then zs0 r + 1 else 0

theorem ones_le : ∀ xs : List Int, ones xs ≤ xs.length
  | [] => Nat.le_refl _
  | x :: r => by have := ones_le r; rw [ones, List.length_cons]; split <;> omega

/-- What a text stands for. -/
def dec (xs : List Int) : List Int := List.replicate (ones xs) 0 ++ (dl (hx xs)).reverse
/-- Bytes as a text. -/
def enc (xs : List Int) : List Int := List.replicate (zs0 xs) 49 ++ ((dsL (be xs)).map ch).reverse

theorem hx_snoc (xs : List Int) (x : Int) : hx (xs ++ [x]) = hx xs * 58 + dv x := by
  unfold hx
  rw [List.map_append, List.map_singleton, hv_snoc]

theorem hx_app (xs ys : List Int) : hx (xs ++ ys) = hx xs * 58 ^ ys.length + hx ys := by
  unfold hx
  rw [List.map_append, hv_app, hv_shift, List.length_map]

theorem good_lt {xs : List Int} (h : Good xs) : hx xs < 58 ^ xs.length := by
  have := hv_lt (l := xs.map dv) fun d hd => by
    obtain ⟨x, hx, rfl⟩ := List.mem_map.1 hd
    exact dv_lt (h x hx)
  rwa [List.length_map] at this

theorem good_app {xs ys : List Int} (h : Good xs) (k : Good ys) : Good (xs ++ ys) := fun x hx => (List.mem_append.1 hx).elim (h x) (k x)
theorem good_nil : Good [] := fun x hx => by cases hx
theorem good_one {x : Int} (h : dv x ≠ 255) : Good [x] := fun y hy => by rw [List.mem_singleton.1 hy]; exact h

theorem zs0_split : ∀ xs : List Int, ∃ t, xs = List.replicate (zs0 xs) 0 ++ t ∧ (t = [] ∨ t.headD 0 ≠ 0)
  | [] => ⟨[], rfl, .inl rfl⟩
  | x :: r => by
    rw [zs0]
    split
    · rename_i h
      obtain ⟨t, h1, h2⟩ := zs0_split r
      exact ⟨t, by rw [List.replicate_succ, List.cons_append, ← h1, h], h2⟩
    · rename_i h
      exact ⟨x :: r, rfl, .inr (by simpa using h)⟩

theorem be_zeros (n : Nat) (t : List Int) : be (List.replicate n 0 ++ t) = be t := by
  induction n with
  | zero => rfl
  | succ n ih => rw [List.replicate_succ, List.cons_append, be_cons, ih]; simp

/-- Bytes are the zeros ahead and the number's bytes. -/
theorem zs0_be {xs : List Int} (h : By xs) : xs = List.replicate (zs0 xs) 0 ++ (dl (be xs)).reverse := by
  obtain ⟨t, h1, h2⟩ := zs0_split xs
  have h3 : be xs = be t := by rw [h1]; exact be_zeros _ _
  have h4 : t = (dl (be t)).reverse := by
    refine be_dl (fun y hy => h y (by rw [h1]; exact List.mem_append_right _ hy)) ?_
    rcases h2 with h2 | h2
    · exact .inl h2
    · exact .inr h2
  rw [h3, ← h4]
  exact h1

theorem ones_enc (n : Nat) (t : List Int) (h : t = [] ∨ t.getD 0 0 ≠ 49) : ones (List.replicate n 49 ++ t) = n := by
  induction n with
  | zero =>
    rcases h with h | h
    · rw [h]; rfl
    · cases t with
      | nil => rfl
      | cons x r => show ones (x :: r) = 0; rw [ones, if_neg (by simpa using h)]
  | succ n ih => rw [List.replicate_succ, List.cons_append, ones, if_pos rfl, ih]

theorem dsL_last (v : Nat) (h : v ≠ 0) : (dsL v).getLastD 0 ≠ 0 := by
  induction v using Nat.strongRecOn with
  | _ v ih =>
    rw [dsLS h]
    by_cases h1 : v / 58 = 0
    · rw [h1, dsL0]
      show v % 58 ≠ 0
      omega
    · have := ih _ (by omega) h1
      have h2 : dsL (v / 58) ≠ [] := by rw [dsLS h1]; exact List.cons_ne_nil _ _
      obtain ⟨d, r, hd⟩ := List.exists_cons_of_ne_nil h2
      rw [hd] at this ⊢
      exact this

theorem enc_good (xs : List Int) : Good (enc xs) := by
  refine good_app (fun x hx => ?_) fun x hx => ?_
  · rw [List.eq_of_mem_replicate hx]; decide
  · obtain ⟨d, hd, rfl⟩ := List.mem_map.1 (List.mem_reverse.1 hx)
    have := dsL_lt _ d hd
    rw [dv_ch d this]
    omega

theorem dv_map : ∀ {l : List Nat}, (∀ d ∈ l, d < 58) → (l.map ch).map dv = l
  | [], _ => rfl
  | d :: l, h => by rw [List.map_cons, List.map_cons, dv_ch d (h d (List.mem_cons_self ..)), dv_map fun x hx => h x (List.mem_cons_of_mem _ hx)]

theorem hx_enc (xs : List Int) : hx (enc xs) = be xs := by
  unfold enc
  rw [hx, List.map_append, List.map_replicate, show dv 49 = 0 by decide, hv_zeros, List.map_reverse, dv_map (dsL_lt _), hv_dsL]

/-- What is written is read again. -/
theorem dec_enc {xs : List Int} (h : By xs) : dec (enc xs) = xs := by
  rw [dec, hx_enc]
  have e : ones (enc xs) = zs0 xs := by
    refine ones_enc _ _ ?_
    by_cases h0 : be xs = 0
    · rw [h0, dsL0]; exact .inl rfl
    · refine .inr fun h1 => ?_
      have h2 := dsL_last _ h0
      have h3 : dsL (be xs) ≠ [] := by rw [dsLS h0]; exact List.cons_ne_nil _ _
      obtain ⟨l, d, hd⟩ : ∃ l d, dsL (be xs) = l ++ [d] := ⟨_, _, (List.dropLast_concat_getLast h3).symm⟩
      have h4 : d < 58 := dsL_lt _ d (by rw [hd]; simp)
      rw [hd] at h1 h2
      rw [List.map_append, List.reverse_append] at h1
      refine h2 ?_
      have h5 : ch d = 49 := by simpa using h1
      rw [ch_one d h4 h5]
      simp
  rw [e]
  exact (zs0_be h).symm
end Go.Proofs.YtepfbdfbfimefaaDoor.Bf
