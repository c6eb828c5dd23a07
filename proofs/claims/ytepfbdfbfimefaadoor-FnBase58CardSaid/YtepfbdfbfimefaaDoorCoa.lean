/- Great numbers: digits of 32 bits. -/
import Derived.Test.YtepfbdfbfimefaaDoorHta
set_option linter.unusedSimpArgs false
set_option linter.unusedVariables false
namespace Go.Proofs.YtepfbdfbfimefaaDoor.Co
open Go Go.Se Go.Proofs.YtepfbdfbfimefaaDoor.Ht

def Dg (ds : List Int) : Prop := ∀ x ∈ ds, 0 ≤ x ∧ x < 4294967296

theorem Dg.of_wf {ds : List Int} (h : ∀ x ∈ ds, (Lit.int .u32 x).wf = true) : Dg ds := fun x hx => by
  have := h x hx
  simp [Lit.wf, IntKind.min, IntKind.max, IntKind.bits, IntKind.signed] at this
  omega

theorem Dg.wf {ds : List Int} (h : Dg ds) : ∀ x ∈ ds, (Lit.int .u32 x).wf = true := fun x hx => by
  have := h x hx
  simp [Lit.wf, IntKind.min, IntKind.max, IntKind.bits, IntKind.signed]
  omega

/-- The number that digits are, the lowest first. -/
def nv : List Int → Nat
  | [] => 0
  | d :: ds => d.toNat + 4294967296 * nv ds

/-- A number's digits, as few as can be. -/
def cn (v : Nat) : List Int := if h : v = 0 then [] else ((v % 4294967296 : Nat) : Int) :: cn (v / 4294967296)
termination_by v
decreasing_by omega

theorem cn0 : cn 0 = [] := by rw [cn]; rfl
theorem cnS {v : Nat} (h : v ≠ 0) : cn v = ((v % 4294967296 : Nat) : Int) :: cn (v / 4294967296) := by rw [cn, dif_neg h]

theorem cn_dg (v : Nat) : Dg (cn v) := by
  induction v using Nat.strongRecOn with
  | _ v ih =>
    intro x hx
    by_cases h : v = 0
    · rw [h, cn0] at hx; cases hx
    · rw [cnS h] at hx
      rcases List.mem_cons.1 hx with rfl | hx
      · omega
      · exact ih _ (by omega) x hx

theorem nv_cn (v : Nat) : nv (cn v) = v := by
  induction v using Nat.strongRecOn with
  | _ v ih =>
    by_cases h : v = 0
    · rw [h, cn0]; rfl
    · rw [cnS h, nv, ih _ (by omega)]
      omega

theorem cn_nil {v : Nat} : cn v = [] ↔ v = 0 := by
  by_cases h : v = 0
  · simp [h, cn0]
  · rw [cnS h]; simp [h]

/-- Digits whose last one is not zero are the number's. -/
theorem cn_of : ∀ {ds : List Int}, Dg ds → (ds = [] ∨ ds.getLastD 0 ≠ 0) → ds = cn (nv ds)
  | [], _, _ => by rw [nv, cn0]
  | [d], h, hl => by
    have hd := h d (List.mem_cons_self ..)
    have h0 : d ≠ 0 := by rcases hl with e | e; cases e; exact e
    rw [nv, nv, cnS (by omega), show (d.toNat + 4294967296 * 0) / 4294967296 = 0 by omega, cn0]
    congr 1
    omega
  | d :: e :: t, h, hl => by
    have hd := h d (List.mem_cons_self ..)
    have hl2 : (e :: t).getLastD 0 ≠ 0 := by rcases hl with e | e; cases e; simpa using e
    have ih := cn_of (ds := e :: t) (fun x hx => h x (List.mem_cons_of_mem _ hx)) (.inr hl2)
    have h0 : nv (e :: t) ≠ 0 := fun h0 => by rw [h0, cn0] at ih; cases ih
    rw [nv, cnS (by omega), show (d.toNat + 4294967296 * nv (e :: t)) / 4294967296 = nv (e :: t) by omega, ← ih]
    congr 1
    omega

theorem nv_app : ∀ (a b : List Int), nv (a ++ b) = nv a + 4294967296 ^ a.length * nv b
  | [], b => by simp [nv]
  | x :: a, b => by
    rw [List.cons_append, nv, nv, nv_app a b, List.length_cons, Nat.pow_succ, Nat.mul_add, ← Nat.mul_assoc, Nat.mul_comm 4294967296 (4294967296 ^ a.length), Nat.add_assoc]

theorem nv_lt : ∀ {ds : List Int}, Dg ds → nv ds < 4294967296 ^ ds.length
  | [], _ => by decide
  | d :: ds, h => by
    have ih := nv_lt (ds := ds) fun x hx => h x (List.mem_cons_of_mem _ hx)
    have hd := h d (List.mem_cons_self ..)
    rw [nv, List.length_cons, Nat.pow_succ]
    omega

/-- A digit of a number. -/
theorem nv_get : ∀ {ds : List Int}, Dg ds → ∀ (i : Nat) (d : Int), ds[i]? = some d → d = ((nv ds / 4294967296 ^ i % 4294967296 : Nat) : Int)
  | d :: ds, h, 0, x, e => by
    simp at e
    subst e
    have hd := h d (List.mem_cons_self ..)
    rw [nv, Nat.pow_zero, Nat.div_one]
    omega
  | d :: ds, h, i + 1, x, e => by
    have hd := h d (List.mem_cons_self ..)
    have ih := nv_get (ds := ds) (fun x hx => h x (List.mem_cons_of_mem _ hx)) i x (by simpa using e)
    rw [nv, Nat.pow_succ, Nat.mul_comm (4294967296 ^ i), ← Nat.div_div_eq_div_mul, show (d.toNat + 4294967296 * nv ds) / 4294967296 = nv ds by omega]
    exact ih

/-- A digit is put in the place of a lower one. -/
theorem nv_set : ∀ {ds : List Int} (i : Nat) (d x : Int), ds[i]? = some d → 0 ≤ d → 0 ≤ x → nv (ds.set i (d + x)) = nv ds + x.toNat * 4294967296 ^ i
  | d :: ds, 0, y, x, e, h0, h1 => by
    simp at e
    subst e
    rw [List.set_cons_zero, nv, nv, Nat.pow_zero, Nat.mul_one]
    omega
  | d :: ds, i + 1, y, x, e, h0, h1 => by
    have ih := nv_set (ds := ds) i y x (by simpa using e) h0 h1
    rw [List.set_cons_succ, nv, nv, ih, Nat.pow_succ, Nat.mul_add]
    have : x.toNat * (4294967296 ^ i * 4294967296) = 4294967296 * (x.toNat * 4294967296 ^ i) := by rw [← Nat.mul_assoc, Nat.mul_comm]
    omega

theorem nv_zero : ∀ n : Nat, nv (List.replicate n 0) = 0
  | 0 => rfl
  | n + 1 => by rw [List.replicate_succ, nv, nv_zero n]; rfl

theorem dg_zero (n : Nat) : Dg (List.replicate n 0) := fun x hx => by rw [List.eq_of_mem_replicate hx]; decide

theorem dg_set {ds : List Int} (h : Dg ds) (i : Nat) {x : Int} (hx : 0 ≤ x ∧ x < 4294967296) : Dg (ds.set i x) := fun y hy => by
  rcases List.mem_or_eq_of_mem_set hy with hy | rfl
  · exact h y hy
  · exact hx

theorem cn_len (v : Nat) (h : v ≠ 0) : 1 ≤ (cn v).length ∧ 4294967296 ^ ((cn v).length - 1) ≤ v := by
  induction v using Nat.strongRecOn with
  | _ v ih =>
    rw [cnS h, List.length_cons]
    refine ⟨by omega, ?_⟩
    by_cases h1 : v / 4294967296 = 0
    · rw [h1, cn0]; simp; omega
    · obtain ⟨k1, k2⟩ := ih (v / 4294967296) (by omega) h1
      obtain ⟨m, hm⟩ : ∃ m, (cn (v / 4294967296)).length = m + 1 := ⟨(cn (v / 4294967296)).length - 1, by omega⟩
      rw [hm] at k2 ⊢
      rw [Nat.add_sub_cancel] at k2 ⊢
      rw [Nat.pow_succ]
      omega

theorem cn_lt (v : Nat) : v < 4294967296 ^ (cn v).length := by
  have h := nv_lt (cn_dg v)
  rwa [nv_cn] at h

theorem cn_drop (v : Nat) : ∀ w : Nat, (cn v).drop w = cn (v / 4294967296 ^ w) := by
  intro w
  induction w generalizing v with
  | zero => simp
  | succ w ih =>
    by_cases h : v = 0
    · rw [h, cn0, Nat.zero_div, cn0]; rfl
    · rw [cnS h, List.drop_succ_cons, ih, Nat.div_div_eq_div_mul, Nat.pow_succ, Nat.mul_comm]

theorem cn_get {v i : Nat} {d : Int} (h : (cn v)[i]? = some d) : d = ((v / 4294967296 ^ i % 4294967296 : Nat) : Int) := by
  have := nv_get (cn_dg v) i d h
  rwa [nv_cn] at this

theorem cn_one {v : Nat} (h : v ≠ 0) (h2 : v < 4294967296) : cn v = [(v : Int)] := by
  rw [cnS h, show v / 4294967296 = 0 by omega, cn0, Nat.mod_eq_of_lt h2]

-- bytes
theorem dl_lt (v : Nat) : v < 256 ^ (dl v).length := by
  induction v using Nat.strongRecOn with
  | _ v ih =>
    by_cases h : v = 0
    · rw [h, dl0]; decide
    · have := ih (v / 256) (by omega)
      rw [dlS h, List.length_cons, Nat.pow_succ]
      omega

theorem dl_len (v : Nat) (h : v ≠ 0) : 1 ≤ (dl v).length ∧ 256 ^ ((dl v).length - 1) ≤ v := by
  induction v using Nat.strongRecOn with
  | _ v ih =>
    rw [dlS h, List.length_cons]
    refine ⟨by omega, ?_⟩
    by_cases h1 : v / 256 = 0
    · rw [h1, dl0]; simp; omega
    · obtain ⟨k1, k2⟩ := ih (v / 256) (by omega) h1
      obtain ⟨m, hm⟩ : ∃ m, (dl (v / 256)).length = m + 1 := ⟨(dl (v / 256)).length - 1, by omega⟩
      rw [hm] at k2 ⊢
      rw [Nat.add_sub_cancel] at k2 ⊢
      rw [Nat.pow_succ]
      omega

theorem dl_get (v : Nat) : ∀ (i : Nat) (d : Int), (dl v)[i]? = some d → d = ((v / 256 ^ i % 256 : Nat) : Int) := by
  induction v using Nat.strongRecOn with
  | _ v ih =>
    intro i d hd
    by_cases h : v = 0
    · rw [h, dl0] at hd; cases hd
    · rw [dlS h] at hd
      cases i with
      | zero => simp at hd; rw [← hd]; simp
      | succ i =>
        have := ih (v / 256) (by omega) i d (by simpa using hd)
        rw [this, Nat.pow_succ, Nat.mul_comm (256 ^ i), ← Nat.div_div_eq_div_mul]

/-- How many bytes a number has, by its size. -/
theorem dl_size {v k : Nat} (h : 256 ^ k ≤ v) (h2 : v < 256 ^ (k + 1)) : (dl v).length = k + 1 := by
  have h0 : v ≠ 0 := by have := Nat.pow_pos (n := k) (show 0 < 256 by decide); omega
  obtain ⟨a, b⟩ := dl_len v h0
  have c := dl_lt v
  have e1 : (dl v).length - 1 < k + 1 := (Nat.pow_lt_pow_iff_right (by decide)).1 (Nat.lt_of_le_of_lt b h2)
  have e2 : k < (dl v).length := (Nat.pow_lt_pow_iff_right (by decide)).1 (Nat.lt_of_le_of_lt h c)
  omega

/-- The number that bytes are, the lowest first. -/
def lev : List Int → Nat
  | [] => 0
  | d :: ds => d.toNat + 256 * lev ds

theorem dl_of : ∀ {ds : List Int}, (∀ x ∈ ds, 0 ≤ x ∧ x ≤ 255) → (ds = [] ∨ ds.getLastD 0 ≠ 0) → ds = dl (lev ds)
  | [], _, _ => by rw [lev, dl0]
  | [d], h, hl => by
    have hd := h d (List.mem_cons_self ..)
    have h0 : d ≠ 0 := by rcases hl with e | e; cases e; exact e
    rw [lev, lev, dl1 (by omega) (by omega)]
    congr 1
    omega
  | d :: e :: t, h, hl => by
    have hd := h d (List.mem_cons_self ..)
    have hl2 : (e :: t).getLastD 0 ≠ 0 := by rcases hl with e | e; cases e; simpa using e
    have ih := dl_of (ds := e :: t) (fun x hx => h x (List.mem_cons_of_mem _ hx)) (.inr hl2)
    have h0 : lev (e :: t) ≠ 0 := fun h0 => by rw [h0, dl0] at ih; cases ih
    rw [lev, dlS (by omega), show (d.toNat + 256 * lev (e :: t)) / 256 = lev (e :: t) by omega, ← ih]
    congr 1
    omega

theorem lev_dl (v : Nat) : lev (dl v) = v := by
  induction v using Nat.strongRecOn with
  | _ v ih =>
    by_cases h : v = 0
    · rw [h, dl0]; rfl
    · rw [dlS h, lev, ih _ (by omega)]
      omega

theorem lev_app : ∀ (a b : List Int), lev (a ++ b) = lev a + 256 ^ a.length * lev b
  | [], b => by simp [lev]
  | x :: a, b => by
    rw [List.cons_append, lev, lev, lev_app a b, List.length_cons, Nat.pow_succ, Nat.mul_add, ← Nat.mul_assoc, Nat.mul_comm 256 (256 ^ a.length), Nat.add_assoc]

/-- The number that bytes are, the highest first. -/
def be (xs : List Int) : Nat := lev xs.reverse

theorem be_app (xs : List Int) (x : Int) : be (xs ++ [x]) = x.toNat + 256 * be xs := by
  rw [be, List.reverse_append]
  rfl

theorem be_dl {xs : List Int} (hw : ∀ x ∈ xs, 0 ≤ x ∧ x ≤ 255) (hh : xs = [] ∨ xs.headD 0 ≠ 0) : xs = (dl (be xs)).reverse := by
  have h := dl_of (ds := xs.reverse) (fun x hx => hw x (List.mem_reverse.1 hx)) (by
    rcases hh with e | e
    · exact .inl (by rw [e]; rfl)
    · refine .inr ?_
      cases xs with
      | nil => exact absurd rfl e
      | cons a t => simpa using e)
  rw [be, ← h, List.reverse_reverse]

theorem be_rev (v : Nat) : be (dl v).reverse = v := by rw [be, List.reverse_reverse, lev_dl]
end Go.Proofs.YtepfbdfbfimefaaDoor.Co
