/- The height of a coinbase: the numbers. -/
/- Great numbers: digits of 32 bits. -/
/- Bytes put together. -/
/- The types that some functions name, as the evaluator wants them. Printed by a program of my own (seatgen.py). -/
/- Great numbers: without zeros above, how many bits, the lowest 64. -/
import Derived.Test.YtepfbdfbfimefaaDoorSy
import Derived.Test.YtepfbdfbfimefaaDoorSu
import Derived.Test.YtepfbdfbfimefaaDoorSl
import Derived.Test.YtepfbdfbfimefaaDoorProg
import Derived.KernelRfl
section
set_option linter.unusedSimpArgs false
set_option linter.unusedVariables false
namespace Go.Proofs.YtepfbdfbfimefaaDoor.Ht
open Go Go.Se

/-- A number's bytes, the lowest first. -/
def dl (v : Nat) : List Int := if h : v = 0 then [] else ((v % 256 : Nat) : Int) :: dl (v / 256)
termination_by v
decreasing_by omega

theorem dl0 : dl 0 = [] := by rw [dl]; rfl
theorem dlS {v : Nat} (h : v ≠ 0) : dl v = ((v % 256 : Nat) : Int) :: dl (v / 256) := by rw [dl, dif_neg h]

/-- The number as a script has it: one byte more where the highest bit would be the sign. -/
def sn (v : Nat) : List Int := if 128 ≤ (dl v).getLastD 0 then dl v ++ [0] else dl v

/-- How the script of a coinbase begins. -/
def hs (v : Nat) : List Int := if v = 0 then [0] else if v ≤ 16 then [80 + (v : Int)] else ((sn v).length : Int) :: sn v

theorem dl1 {v : Nat} (h : v ≠ 0) (h2 : v < 256) : dl v = [(v : Int)] := by
  rw [dlS h, show v / 256 = 0 by omega, dl0, show v % 256 = v by omega]
theorem dl2 {v : Nat} (h : 256 ≤ v) (h2 : v < 65536) : dl v = [((v % 256 : Nat) : Int), ((v / 256 : Nat) : Int)] := by
  rw [dlS (by omega), dl1 (by omega) (by omega)]
theorem dl3 {v : Nat} (h : 65536 ≤ v) (h2 : v < 16777216) : dl v = [((v % 256 : Nat) : Int), ((v / 256 % 256 : Nat) : Int), ((v / 65536 : Nat) : Int)] := by
  rw [dlS (by omega), dl2 (by omega) (by omega), Nat.div_div_eq_div_mul]
theorem dl4 {v : Nat} (h : 16777216 ≤ v) (h2 : v < 4294967296) : dl v = [((v % 256 : Nat) : Int), ((v / 256 % 256 : Nat) : Int), ((v / 65536 % 256 : Nat) : Int), ((v / 16777216 : Nat) : Int)] := by
  rw [dlS (by omega), dl3 (by omega) (by omega), Nat.div_div_eq_div_mul, Nat.div_div_eq_div_mul]

theorem dl_ne {v : Nat} (h : v ≠ 0) : dl v ≠ [] := by rw [dlS h]; exact List.cons_ne_nil _ _

/-- The forms of a height's bytes. -/
inductive Fm (v : Nat) : Prop where
  | a (h : dl v = [(v : Int)]) (h2 : sn v = [(v : Int)]) (k : v < 128)
  | b (h : dl v = [(v : Int)]) (h2 : sn v = [(v : Int), 0]) (k : 128 ≤ v ∧ v < 256)
  | c (x y : Int) (h : dl v = [x, y]) (h2 : sn v = [x, y]) (hv : x = (v % 256 : Nat) ∧ y = (v / 256 : Nat)) (k : 256 ≤ v ∧ v < 32768)
  | d (x y : Int) (h : dl v = [x, y]) (h2 : sn v = [x, y, 0]) (hv : x = (v % 256 : Nat) ∧ y = (v / 256 : Nat)) (k : 32768 ≤ v ∧ v < 65536)
  | e (x y z : Int) (h : dl v = [x, y, z]) (h2 : sn v = [x, y, z]) (hv : x = (v % 256 : Nat) ∧ y = (v / 256 % 256 : Nat) ∧ z = (v / 65536 : Nat)) (k : 65536 ≤ v ∧ v < 8388608)
  | f (x y z : Int) (h : dl v = [x, y, z]) (h2 : sn v = [x, y, z, 0]) (hv : x = (v % 256 : Nat) ∧ y = (v / 256 % 256 : Nat) ∧ z = (v / 65536 : Nat)) (k : 8388608 ≤ v ∧ v < 16777216)
  | g (x y z w : Int) (h : dl v = [x, y, z, w]) (h2 : sn v = [x, y, z, w]) (hv : x = (v % 256 : Nat) ∧ y = (v / 256 % 256 : Nat) ∧ z = (v / 65536 % 256 : Nat) ∧ w = (v / 16777216 : Nat)) (k : 16777216 ≤ v)

theorem fm {v : Nat} (h : v ≠ 0) (hv : v < 2147483648) : Fm v := by
  by_cases h1 : v < 256
  · have e := dl1 h h1
    by_cases k : v < 128
    · exact .a e (by rw [sn, e, if_neg (by simp; omega)]) k
    · exact .b e (by rw [sn, e, if_pos (by simp; omega)]; rfl) ⟨by omega, h1⟩
  by_cases h2 : v < 65536
  · have e := dl2 (by omega) h2
    by_cases k : v < 32768
    · exact .c _ _ e (by rw [sn, e, if_neg (by simp; omega)]) ⟨rfl, rfl⟩ ⟨by omega, k⟩
    · exact .d _ _ e (by rw [sn, e, if_pos (by simp; omega)]; rfl) ⟨rfl, rfl⟩ ⟨by omega, h2⟩
  by_cases h3 : v < 16777216
  · have e := dl3 (by omega) h3
    by_cases k : v < 8388608
    · exact .e _ _ _ e (by rw [sn, e, if_neg (by simp; omega)]) ⟨rfl, rfl, rfl⟩ ⟨by omega, k⟩
    · exact .f _ _ _ e (by rw [sn, e, if_pos (by simp; omega)]; rfl) ⟨rfl, rfl, rfl⟩ ⟨by omega, h3⟩
  have e := dl4 (by omega) (by omega : v < 4294967296)
  exact .g _ _ _ _ e (by rw [sn, e, if_neg (by simp; omega)]) ⟨rfl, rfl, rfl, rfl⟩ (by omega)

/-- The four bytes of a height. -/
def b4 (v : Nat) : List Int := [((v % 256 : Nat) : Int), ((v / 256 % 256 : Nat) : Int), ((v / 65536 % 256 : Nat) : Int), ((v / 16777216 : Nat) : Int)]

theorem sn_b4 {v : Nat} (h : v ≠ 0) (hv : v < 2147483648) : 1 ≤ (sn v).length ∧ (sn v).length ≤ 4 ∧ sn v ++ [0, 0, 0, 0].drop (sn v).length = b4 v := by
  cases fm h hv with
  | a h h2 k =>
    rw [h2]
    refine ⟨by simp, by simp, ?_⟩
    show [(v : Int), 0, 0, 0] = b4 v
    rw [b4, show v % 256 = v by omega, show v / 256 % 256 = 0 by omega, show v / 65536 % 256 = 0 by omega, show v / 16777216 = 0 by omega]
    rfl
  | b h h2 k =>
    rw [h2]
    refine ⟨by simp, by simp, ?_⟩
    show [(v : Int), 0, 0, 0] = b4 v
    rw [b4, show v % 256 = v by omega, show v / 256 % 256 = 0 by omega, show v / 65536 % 256 = 0 by omega, show v / 16777216 = 0 by omega]
    rfl
  | c x y h h2 hv k =>
    rw [h2]
    refine ⟨by simp, by simp, ?_⟩
    obtain ⟨rfl, rfl⟩ := hv
    show [((v % 256 : Nat) : Int), ((v / 256 : Nat) : Int), 0, 0] = b4 v
    rw [b4, show v / 256 % 256 = v / 256 by omega, show v / 65536 % 256 = 0 by omega, show v / 16777216 = 0 by omega]
    rfl
  | d x y h h2 hv k =>
    rw [h2]
    refine ⟨by simp, by simp, ?_⟩
    obtain ⟨rfl, rfl⟩ := hv
    show [((v % 256 : Nat) : Int), ((v / 256 : Nat) : Int), 0, 0] = b4 v
    rw [b4, show v / 256 % 256 = v / 256 by omega, show v / 65536 % 256 = 0 by omega, show v / 16777216 = 0 by omega]
    rfl
  | e x y z h h2 hv k =>
    rw [h2]
    refine ⟨by simp, by simp, ?_⟩
    obtain ⟨rfl, rfl, rfl⟩ := hv
    show [((v % 256 : Nat) : Int), ((v / 256 % 256 : Nat) : Int), ((v / 65536 : Nat) : Int), 0] = b4 v
    rw [b4, show v / 65536 % 256 = v / 65536 by omega, show v / 16777216 = 0 by omega]
    rfl
  | f x y z h h2 hv k =>
    rw [h2]
    refine ⟨by simp, by simp, ?_⟩
    obtain ⟨rfl, rfl, rfl⟩ := hv
    show [((v % 256 : Nat) : Int), ((v / 256 % 256 : Nat) : Int), ((v / 65536 : Nat) : Int), 0] = b4 v
    rw [b4, show v / 65536 % 256 = v / 65536 by omega, show v / 16777216 = 0 by omega]
    rfl
  | g x y z w h h2 hv k =>
    rw [h2]
    refine ⟨by simp, by simp, ?_⟩
    obtain ⟨rfl, rfl, rfl, rfl⟩ := hv
    rfl

theorem dl_wf : ∀ (v : Nat), ∀ x ∈ dl v, 0 ≤ x ∧ x ≤ 255 := by
  intro v
  induction v using Nat.strongRecOn with
  | _ v ih =>
    intro x hx
    by_cases h : v = 0
    · rw [h, dl0] at hx; cases hx
    · rw [dlS h] at hx
      rcases List.mem_cons.1 hx with rfl | hx
      · omega
      · exact ih _ (by omega) x hx

theorem sn_wf (v : Nat) : ∀ x ∈ sn v, 0 ≤ x ∧ x ≤ 255 := by
  intro x hx
  rw [sn] at hx
  split at hx
  · rcases List.mem_append.1 hx with hx | hx
    · exact dl_wf v x hx
    · simp at hx; omega
  · exact dl_wf v x hx

theorem wf8 {x : Int} (h : 0 ≤ x ∧ x ≤ 255) : (Lit.int .u8 x).wf = true := by
  simp [Lit.wf, IntKind.min, IntKind.max, IntKind.bits, IntKind.signed]
  omega

theorem hs_wf {v : Nat} (hv : v < 2147483648) : ∀ x ∈ hs v, (Lit.int .u8 x).wf = true := by
  intro x hx
  rw [hs] at hx
  split at hx
  · simp at hx; subst hx; exact wf8 (by omega)
  split at hx
  · simp at hx; subst hx; exact wf8 (by omega)
  · rcases List.mem_cons.1 hx with rfl | hx
    · have := sn_b4 (by assumption) hv; exact wf8 (by omega)
    · exact wf8 (sn_wf v x hx)

theorem hs_len {v : Nat} (hv : v < 2147483648) : 1 ≤ (hs v).length ∧ (hs v).length ≤ 5 := by
  rw [hs]
  split
  · simp
  split
  · simp
  · have := sn_b4 (by assumption) hv
    simp
    omega
end Go.Proofs.YtepfbdfbfimefaaDoor.Ht
end
section
set_option linter.unusedSimpArgs false
set_option linter.unusedVariables false
namespace Go.Proofs.YtepfbdfbfimefaaDoor.Co
open Go Go.Se Go.Proofs.YtepfbdfbfimefaaDoor.Ht

def Dg (ds : List Int) : Prop := ∀ x ∈ ds, 0 ≤ x ∧ x < 4294967296

theorem Dg.of_wf {ds : List Int} (h : ∀ x ∈ ds, (Lit.int .u32 x).wf = true) : Dg ds := fun x hx => by
  have := h x hx
  simp [Lit.wf, IntKind.min, IntKind.max, IntKind.bits, IntKind.signed] at this
  omega

theorem Dg.wf {ds : List Int} (h : Dg ds) : ∀ x ∈ ds, (Lit.int .u32 x).wf = true := fun x hx => by
  have := h x hx
  simp [Lit.wf, IntKind.min, IntKind.max, IntKind.bits, IntKind.signed]
  omega

/-- The number that digits are, the lowest first. -/
def nv : List Int → Nat
  | [] => 0
  | d :: ds => d.toNat + 4294967296 * nv ds

/-- A number's digits, as few as can be. -/
def cn (v : Nat) : List Int := if h : v = 0 then [] else ((v % 4294967296 : Nat) : Int) :: cn (v / 4294967296)
termination_by v
decreasing_by omega

theorem cn0 : cn 0 = [] := by rw [cn]; rfl
theorem cnS {v : Nat} (h : v ≠ 0) : cn v = ((v % 4294967296 : Nat) : Int) :: cn (v / 4294967296) := by rw [cn, dif_neg h]

theorem cn_dg (v : Nat) : Dg (cn v) := by
  induction v using Nat.strongRecOn with
  | _ v ih =>
    intro x hx
    by_cases h : v = 0
    · rw [h, cn0] at hx; cases hx
    · rw [cnS h] at hx
      rcases List.mem_cons.1 hx with rfl | hx
      · omega
      · exact ih _ (by omega) x hx

theorem nv_cn (v : Nat) : nv (cn v) = v := by
  induction v using Nat.strongRecOn with
  | _ v ih =>
    by_cases h : v = 0
    · rw [h, cn0]; rfl
    · rw [cnS h, nv, ih _ (by omega)]
      omega

theorem cn_nil {v : Nat} : cn v = [] ↔ v = 0 := by
  by_cases h : v = 0
  · simp [h, cn0]
  · rw [cnS h]; simp [h]

/-- Digits whose last one is not zero are the number's. -/
theorem cn_of : ∀ {ds : List Int}, Dg ds → (ds = [] ∨ ds.getLastD 0 ≠ 0) → ds = cn (nv ds)
  | [], _, _ => by rw [nv, cn0]
  | [d], h, hl => by
    have hd := h d (List.mem_cons_self ..)
    have h0 : d ≠ 0 := by rcases hl with e | e; cases e; exact e
    rw [nv, nv, cnS (by omega), show (d.toNat + 4294967296 * 0) / 4294967296 = 0 by omega, cn0]
    congr 1
    omega
  | d :: e :: t, h, hl => by
    have hd := h d (List.mem_cons_self ..)
    have hl2 : (e :: t).getLastD 0 ≠ 0 := by rcases hl with e | e; cases e; simpa using e
    have ih := cn_of (ds := e :: t) (fun x hx => h x (List.mem_cons_of_mem _ hx)) (.inr hl2)
    have h0 : nv (e :: t) ≠ 0 := fun h0 => by rw [h0, cn0] at ih; cases ih
    rw [nv, cnS (by omega), show (d.toNat + 4294967296 * nv (e :: t)) / 4294967296 = nv (e :: t) by omega, ← ih]
    congr 1
    omega

theorem nv_app : ∀ (a b : List Int), nv (a ++ b) = nv a + 4294967296 ^ a.length * nv b
  | [], b => by simp [nv]
  | x :: a, b => by
    rw [List.cons_append, nv, nv, nv_app a b, List.length_cons, Nat.pow_succ, Nat.mul_add, ← Nat.mul_assoc, Nat.mul_comm 4294967296 (4294967296 ^ a.length), Nat.add_assoc]

theorem nv_lt : ∀ {ds : List Int}, Dg ds → nv ds < 4294967296 ^ ds.length
  | [], _ => by decide
  | d :: ds, h => by
    have ih := nv_lt (ds := ds) fun x hx => h x (List.mem_cons_of_mem _ hx)
    have hd := h d (List.mem_cons_self ..)
    rw [nv, List.length_cons, Nat.pow_succ]
    omega

/-- A digit of a number. -/
theorem nv_get : ∀ {ds : List Int}, Dg ds → ∀ (i : Nat) (d : Int), ds[i]? = some d → d = ((nv ds / 4294967296 ^ i % 4294967296 : Nat) : Int)
  | d :: ds, h, 0, x, e => by
    simp at e
    subst e
    have hd := h d (List.mem_cons_self ..)
    rw [nv, Nat.pow_zero, Nat.div_one]
    omega
  | d :: ds, h, i + 1, x, e => by
    have hd := h d (List.mem_cons_self ..)
    have ih := nv_get (ds := ds) (fun x hx => h x (List.mem_cons_of_mem _ hx)) i x (by simpa using e)
    rw [nv, Nat.pow_succ, Nat.mul_comm (4294967296 ^ i), ← Nat.div_div_eq_div_mul, show (d.toNat + 4294967296 * nv ds) / 4294967296 = nv ds by omega]
    exact ih

/-- A digit is put in the place of a lower one. -/
theorem nv_set : ∀ {ds : List Int} (i : Nat) (d x : Int), ds[i]? = some d → 0 ≤ d → 0 ≤ x → nv (ds.set i (d + x)) = nv ds + x.toNat * 4294967296 ^ i
  | d :: ds, 0, y, x, e, h0, h1 => by
    simp at e
    subst e
    rw [List.set_cons_zero, nv, nv, Nat.pow_zero, Nat.mul_one]
    omega
  | d :: ds, i + 1, y, x, e, h0, h1 => by
    have ih := nv_set (ds := ds) i y x (by simpa using e) h0 h1
    rw [List.set_cons_succ, nv, nv, ih, Nat.pow_succ, Nat.mul_add]
    have : x.toNat * (4294967296 ^ i * 4294967296) = 4294967296 * (x.toNat * 4294967296 ^ i) := by rw [← Nat.mul_assoc, Nat.mul_comm]
    omega

theorem nv_zero : ∀ n : Nat, nv (List.replicate n 0) = 0
  | 0 => rfl
  | n + 1 => by rw [List.replicate_succ, nv, nv_zero n]; rfl

theorem dg_zero (n : Nat) : Dg (List.replicate n 0) := fun x hx => by rw [List.eq_of_mem_replicate hx]; decide

theorem dg_set {ds : List Int} (h : Dg ds) (i : Nat) {x : Int} (hx : 0 ≤ x ∧ x < 4294967296) : Dg (ds.set i x) := fun y hy => by
  rcases List.mem_or_eq_of_mem_set hy with hy | rfl
  · exact h y hy
  · exact hx

theorem cn_len (v : Nat) (h : v ≠ 0) : 1 ≤ (cn v).length ∧ 4294967296 ^ ((cn v).length - 1) ≤ v := by
  induction v using Nat.strongRecOn with
  | _ v ih =>
    rw [cnS h, List.length_cons]
    refine ⟨by omega, ?_⟩
    by_cases h1 : v / 4294967296 = 0
    · rw [h1, cn0]; simp; omega
    · obtain ⟨k1, k2⟩ := ih (v / 4294967296) (by omega) h1
      obtain ⟨m, hm⟩ : ∃ m, (cn (v / 4294967296)).length = m + 1 := ⟨(cn (v / 4294967296)).length - 1, by omega⟩
      rw [hm] at k2 ⊢
      rw [Nat.add_sub_cancel] at k2 ⊢
      rw [Nat.pow_succ]
      omega

theorem cn_lt (v : Nat) : v < 4294967296 ^ (cn v).length := by
  have h := nv_lt (cn_dg v)
  rwa [nv_cn] at h

theorem cn_drop (v : Nat) : ∀ w : Nat, (cn v).drop w = cn (v / 4294967296 ^ w) := by
  intro w
  induction w generalizing v with
  | zero => simp
  | succ w ih =>
    by_cases h : v = 0
    · rw [h, cn0, Nat.zero_div, cn0]; rfl
    · rw [cnS h, List.drop_succ_cons, ih, Nat.div_div_eq_div_mul, Nat.pow_succ, Nat.mul_comm]

theorem cn_get {v i : Nat} {d : Int} (h : (cn v)[i]? = some d) : d = ((v / 4294967296 ^ i % 4294967296 : Nat) : Int) := by
  have := nv_get (cn_dg v) i d h
  rwa [nv_cn] at this

theorem cn_one {v : Nat} (h : v ≠ 0) (h2 : v < 4294967296) : cn v = [(v : Int)] := by
  rw [cnS h, show v / 4294967296 = 0 by omega, cn0, Nat.mod_eq_of_lt h2]

-- bytes
theorem dl_lt (v : Nat) : v < 256 ^ (dl v).length := by
  induction v using Nat.strongRecOn with
  | _ v ih =>
    by_cases h : v = 0
    · rw [h, dl0]; decide
    · have := ih (v / 256) (by omega)
      rw [dlS h, List.length_cons, Nat.pow_succ]
      omega

theorem dl_len (v : Nat) (h : v ≠ 0) : 1 ≤ (dl v).length ∧ 256 ^ ((dl v).length - 1) ≤ v := by
  induction v using Nat.strongRecOn with
  | _ v ih =>
    rw [dlS h, List.length_cons]
    refine ⟨by omega, ?_⟩
    by_cases h1 : v / 256 = 0
    · rw [h1, dl0]; simp; omega
    · obtain ⟨k1, k2⟩ := ih (v / 256) (by omega) h1
      obtain ⟨m, hm⟩ : ∃ m, (dl (v / 256)).length = m + 1 := ⟨(dl (v / 256)).length - 1, by omega⟩
      rw [hm] at k2 ⊢
      rw [Nat.add_sub_cancel] at k2 ⊢
      rw [Nat.pow_succ]
      omega

theorem dl_get (v : Nat) : ∀ (i : Nat) (d : Int), (dl v)[i]? = some d → d = ((v / 256 ^ i % 256 : Nat) : Int) := by
  induction v using Nat.strongRecOn with
  | _ v ih =>
    intro i d hd
    by_cases h : v = 0
    · rw [h, dl0] at hd; cases hd
    · rw [dlS h] at hd
      cases i with
      | zero => simp at hd; rw [← hd]; simp
      | succ i =>
        have := ih (v / 256) (by omega) i d (by simpa using hd)
        rw [this, Nat.pow_succ, Nat.mul_comm (256 ^ i), ← Nat.div_div_eq_div_mul]

/-- How many bytes a number has, by its size. -/
theorem dl_size {v k : Nat} (h : 256 ^ k ≤ v) (h2 : v < 256 ^ (k + 1)) : (dl v).length = k + 1 := by
  have h0 : v ≠ 0 := by have := Nat.pow_pos (n := k) (show 0 < 256 by decide); omega
  obtain ⟨a, b⟩ := dl_len v h0
  have c := dl_lt v
  have e1 : (dl v).length - 1 < k + 1 := (Nat.pow_lt_pow_iff_right (by decide)).1 (Nat.lt_of_le_of_lt b h2)
  have e2 : k < (dl v).length := (Nat.pow_lt_pow_iff_right (by decide)).1 (Nat.lt_of_le_of_lt h c)
  omega

/-- The number that bytes are, the lowest first. -/
def lev : List Int → Nat
  | [] => 0
  | d :: ds => d.toNat + 256 * lev ds

theorem dl_of : ∀ {ds : List Int}, (∀ x ∈ ds, 0 ≤ x ∧ x ≤ 255) → (ds = [] ∨ ds.getLastD 0 ≠ 0) → ds = dl (lev ds)
  | [], _, _ => by rw [lev, dl0]
  | [d], h, hl => by
    have hd := h d (List.mem_cons_self ..)
    have h0 : d ≠ 0 := by rcases hl with e | e; cases e; exact e
    rw [lev, lev, dl1 (by omega) (by omega)]
    congr 1
    omega
  | d :: e :: t, h, hl => by
    have hd := h d (List.mem_cons_self ..)
    have hl2 : (e :: t).getLastD 0 ≠ 0 := by rcases hl with e | e; cases e; simpa using e
    have ih := dl_of (ds := e :: t) (fun x hx => h x (List.mem_cons_of_mem _ hx)) (.inr hl2)
    have h0 : lev (e :: t) ≠ 0 := fun h0 => by rw [h0, dl0] at ih; cases ih
    rw [lev, dlS (by omega), show (d.toNat + 256 * lev (e :: t)) / 256 = lev (e :: t) by omega, ← ih]
    congr 1
    omega

theorem lev_dl (v : Nat) : lev (dl v) = v := by
  induction v using Nat.strongRecOn with
  | _ v ih =>
    by_cases h : v = 0
    · rw [h, dl0]; rfl
    · rw [dlS h, lev, ih _ (by omega)]
      omega

theorem lev_app : ∀ (a b : List Int), lev (a ++ b) = lev a + 256 ^ a.length * lev b
  | [], b => by simp [lev]
  | x :: a, b => by
    rw [List.cons_append, lev, lev, lev_app a b, List.length_cons, Nat.pow_succ, Nat.mul_add, ← Nat.mul_assoc, Nat.mul_comm 256 (256 ^ a.length), Nat.add_assoc]

/-- The number that bytes are, the highest first. -/
def be (xs : List Int) : Nat := lev xs.reverse

theorem be_app (xs : List Int) (x : Int) : be (xs ++ [x]) = x.toNat + 256 * be xs := by
  rw [be, List.reverse_append]
  rfl

theorem be_dl {xs : List Int} (hw : ∀ x ∈ xs, 0 ≤ x ∧ x ≤ 255) (hh : xs = [] ∨ xs.headD 0 ≠ 0) : xs = (dl (be xs)).reverse := by
  have h := dl_of (ds := xs.reverse) (fun x hx => hw x (List.mem_reverse.1 hx)) (by
    rcases hh with e | e
    · exact .inl (by rw [e]; rfl)
    · refine .inr ?_
      cases xs with
      | nil => exact absurd rfl e
      | cons a t => simpa using e)
  rw [be, ← h, List.reverse_reverse]

theorem be_rev (v : Nat) : be (dl v).reverse = v := by rw [be, List.reverse_reverse, lev_dl]
end Go.Proofs.YtepfbdfbfimefaaDoor.Co
end
section
set_option linter.unusedSimpArgs false
set_option linter.unusedVariables false
set_option linter.unusedSectionVars false
namespace Go.Proofs.YtepfbdfbfimefaaDoor.Vr
open Go Go.Se Go.Proofs

theorem orb {x y s : Nat} (h : x < 2 ^ s) : x ||| (y * 2 ^ s) = x + y * 2 ^ s := by
  rw [Nat.or_comm, Nat.mul_comm, ← Nat.two_pow_add_eq_or_of_lt h, Nat.add_comm]

section
variable {bin : BinOp → IntKind → Int → Int → Int} {cmp : BinOp → Int → Int → Bool} {cnv : IntKind → Int → Int} {neg : IntKind → Int → Int} {com : IntKind → Int → Int} {bnot : Bool → Bool} {beq : Bool → Bool → Bool} {ofN : Nat → Int} {toN : Int → Nat} {at_ : Nat → Nat → Nat → Nat} {sub_ : Nat → Nat → Nat} {scmp : BinOp → ByteArray → ByteArray → Bool} {cat : ByteArray → ByteArray → ByteArray} {sget : ByteArray → Int → Int} {ssz : ByteArray → Nat} {ssub : ByteArray → Nat → Nat → ByteArray} {elem : Option Addr → Int → Nat → Addr} {fld_ : Addr → Nat → Addr}
  (hA : (⟨bin, cmp, cnv, neg, com, bnot, beq, ofN, toN, at_, sub_, scmp, cat, sget, ssz, ssub, elem, fld_⟩ : Ar) = Ar.real)
include hA

theorem or16 {x y s : Nat} (h : x < 2 ^ s) (hs : s < 16) (hb : x + y * 2 ^ s < 65536) {si : Int} (hsi : si = s) : bin .or .u16 (x : Int) (bin .shl .u16 (y : Int) si) = ((x + y * 2 ^ s : Nat) : Int) := by
  subst hsi
  have e : bin .shl .u16 (y : Int) (s : Int) = ((y * 2 ^ s : Nat) : Int) := by
    rw [shw_u16 hA hs, Nat.mod_eq_of_lt (by omega)]
  rw [e, or_u16 hA (by omega) (by omega), orb h]

theorem or32 {x y s : Nat} (h : x < 2 ^ s) (hs : s < 32) (hb : x + y * 2 ^ s < 4294967296) {si : Int} (hsi : si = s) : bin .or .u32 (x : Int) (bin .shl .u32 (y : Int) si) = ((x + y * 2 ^ s : Nat) : Int) := by
  subst hsi
  have e : bin .shl .u32 (y : Int) (s : Int) = ((y * 2 ^ s : Nat) : Int) := by
    rw [shw_u32 hA hs, Nat.mod_eq_of_lt (by omega)]
  rw [e, or_u32 hA (by omega) (by omega), orb h]

theorem or64 {x y s : Nat} (h : x < 2 ^ s) (hs : s < 64) (hb : x + y * 2 ^ s < 18446744073709551616) {si : Int} (hsi : si = s) : bin .or .u64 (x : Int) (bin .shl .u64 (y : Int) si) = ((x + y * 2 ^ s : Nat) : Int) := by
  subst hsi
  have e : bin .shl .u64 (y : Int) (s : Int) = ((y * 2 ^ s : Nat) : Int) := by
    rw [shw_u64 hA hs, Nat.mod_eq_of_lt (by omega)]
  rw [e, or_u64 hA (by omega) (by omega), orb h]

theorem val2 {v : Nat} (hv : v < 65536) {D0 D1 : Int} (h0 : D0 = ((v / 256 ^ 0 % 256 : Nat) : Int)) (h1 : D1 = ((v / 256 ^ 1 % 256 : Nat) : Int)) :
    cnv .u64 (bin .or .u16 (cnv .u16 D0) (bin .shl .u16 (cnv .u16 D1) 8)) = (v : Int) := by
  simp only [Nat.reducePow] at h0 h1
  rw [cnv_u16 hA (by omega), cnv_u16 hA (by omega), h0, h1, or16 hA (s := 8) (si := 8) (by omega) (by omega) (by omega) rfl, cnv_u64 hA (by omega)]
  omega

theorem val4 {v : Nat} (hv : v < 4294967296) {D0 D1 D2 D3 : Int} (h0 : D0 = ((v / 256 ^ 0 % 256 : Nat) : Int)) (h1 : D1 = ((v / 256 ^ 1 % 256 : Nat) : Int)) (h2 : D2 = ((v / 256 ^ 2 % 256 : Nat) : Int)) (h3 : D3 = ((v / 256 ^ 3 % 256 : Nat) : Int)) :
    cnv .u64 (bin .or .u32 (bin .or .u32 (bin .or .u32 (cnv .u32 D0) (bin .shl .u32 (cnv .u32 D1) 8)) (bin .shl .u32 (cnv .u32 D2) 16)) (bin .shl .u32 (cnv .u32 D3) 24)) = (v : Int) := by
  simp only [Nat.reducePow] at h0 h1 h2 h3
  rw [cnv_u32 hA (by omega), cnv_u32 hA (by omega), cnv_u32 hA (by omega), cnv_u32 hA (by omega), h0, h1, h2, h3, or32 hA (s := 8) (si := 8) (by omega) (by omega) (by omega) rfl, or32 hA (s := 16) (si := 16) (by omega) (by omega) (by omega) rfl, or32 hA (s := 24) (si := 24) (by omega) (by omega) (by omega) rfl, cnv_u64 hA (by omega)]
  omega

theorem val8 {v : Nat} (hv : v < 18446744073709551616) {D0 D1 D2 D3 D4 D5 D6 D7 : Int} (h0 : D0 = ((v / 256 ^ 0 % 256 : Nat) : Int)) (h1 : D1 = ((v / 256 ^ 1 % 256 : Nat) : Int)) (h2 : D2 = ((v / 256 ^ 2 % 256 : Nat) : Int)) (h3 : D3 = ((v / 256 ^ 3 % 256 : Nat) : Int))
    (h4 : D4 = ((v / 256 ^ 4 % 256 : Nat) : Int)) (h5 : D5 = ((v / 256 ^ 5 % 256 : Nat) : Int)) (h6 : D6 = ((v / 256 ^ 6 % 256 : Nat) : Int)) (h7 : D7 = ((v / 256 ^ 7 % 256 : Nat) : Int)) :
    bin .or .u64 (bin .or .u64 (bin .or .u64 (bin .or .u64 (bin .or .u64 (bin .or .u64 (bin .or .u64 (cnv .u64 D0) (bin .shl .u64 (cnv .u64 D1) 8)) (bin .shl .u64 (cnv .u64 D2) 16)) (bin .shl .u64 (cnv .u64 D3) 24)) (bin .shl .u64 (cnv .u64 D4) 32)) (bin .shl .u64 (cnv .u64 D5) 40)) (bin .shl .u64 (cnv .u64 D6) 48)) (bin .shl .u64 (cnv .u64 D7) 56) = (v : Int) := by
  simp only [Nat.reducePow] at h0 h1 h2 h3 h4 h5 h6 h7
  rw [cnv_u64 hA (by omega : 0 ≤ D0 ∧ D0 ≤ 18446744073709551615), cnv_u64 hA (by omega : 0 ≤ D1 ∧ D1 ≤ 18446744073709551615), cnv_u64 hA (by omega : 0 ≤ D2 ∧ D2 ≤ 18446744073709551615), cnv_u64 hA (by omega : 0 ≤ D3 ∧ D3 ≤ 18446744073709551615), cnv_u64 hA (by omega : 0 ≤ D4 ∧ D4 ≤ 18446744073709551615), cnv_u64 hA (by omega : 0 ≤ D5 ∧ D5 ≤ 18446744073709551615), cnv_u64 hA (by omega : 0 ≤ D6 ∧ D6 ≤ 18446744073709551615), cnv_u64 hA (by omega : 0 ≤ D7 ∧ D7 ≤ 18446744073709551615),
    h0, h1, h2, h3, h4, h5, h6, h7, or64 hA (s := 8) (si := 8) (by omega) (by omega) (by omega) rfl, or64 hA (s := 16) (si := 16) (by omega) (by omega) (by omega) rfl, or64 hA (s := 24) (si := 24) (by omega) (by omega) (by omega) rfl, or64 hA (s := 32) (si := 32) (by omega) (by omega) (by omega) rfl, or64 hA (s := 40) (si := 40) (by omega) (by omega) (by omega) rfl, or64 hA (s := 48) (si := 48) (by omega) (by omega) (by omega) rfl, or64 hA (s := 56) (si := 56) (by omega) (by omega) (by omega) rfl]
  omega
end
end Go.Proofs.YtepfbdfbfimefaaDoor.Vr
end
section
namespace Go.Proofs.YtepfbdfbfimefaaDoor.Tyco
open Go Go.Se Go.Proofs

/-- int -/
def y3 : Ty := ⟨.int .i64, 1, false, .int .i64 0, 8⟩
theorem ty3 : tyOf Tryd.prog 3 = some y3 := by kernel_rfl
/-- uint64 -/
def y33 : Ty := ⟨.int .u64, 1, false, .int .u64 0, 8⟩
theorem ty33 : tyOf Tryd.prog 33 = some y33 := by kernel_rfl
/-- big.nat -/
def y48 : Ty := ⟨.slc 68, 1, false, .slice none 0 0, 24⟩
theorem ty48 : tyOf Tryd.prog 48 = some y48 := by kernel_rfl
/-- uint32 -/
def y68 : Ty := ⟨.int .u32, 1, false, .int .u32 0, 4⟩
theorem ty68 : tyOf Tryd.prog 68 = some y68 := by kernel_rfl

/-- function 36: (pub-mintmark/pub/smallbig.nat).norm -/
def tys36 : Nat → Option Ty := fun t => find [(48, y48), (68, y68), (3, y3)] t
theorem ok36 : TysOk Tryd.prog tys36 := tysOk_of ⟨ty48, ty68, ty3, trivial⟩

/-- function 40: (pub-mintmark/pub/smallbig.nat).low64 -/
def tys40 : Nat → Option Ty := fun t => find [(48, y48), (68, y68), (3, y3), (33, y33)] t
theorem ok40 : TysOk Tryd.prog tys40 := tysOk_of ⟨ty48, ty68, ty3, ty33, trivial⟩

/-- function 46: (pub-mintmark/pub/smallbig.nat).bitLen -/
def tys46 : Nat → Option Ty := fun t => find [(48, y48), (68, y68), (3, y3)] t
theorem ok46 : TysOk Tryd.prog tys46 := tysOk_of ⟨ty48, ty68, ty3, trivial⟩
end Go.Proofs.YtepfbdfbfimefaaDoor.Tyco
end
section
set_option linter.unusedSimpArgs false
set_option linter.unusedVariables false
namespace Go.Proofs.YtepfbdfbfimefaaDoor.Co
open Go Go.Se Go.Proofs Go.Proofs.YtepfbdfbfimefaaDoor.Tyco
open Go.Proofs.YtepfbdfbfimefaaDoor.Vr (or32 or64)

theorem ix_ri {R : RO} {k : IntKind} {a : Option Addr} {n : Nat} {xs : List Int} (h : RI R k a n xs) {ofn : Int} (ho : ofn = n) {i : Int} (j : Nat) (hj : i = j) (h1 : j < n) {q : Prop} (hq : q) : Idx i ofn a q :=
  ⟨by omega, by rw [ho]; omega, (h.at_ i (by omega) (by omega)).1, hq⟩

theorem getD_get {l : List Int} {i : Nat} (h : i < l.length) : l[i]? = some (l.getD i 0) := by
  rw [List.getD_eq_getElem?_getD, List.getElem?_eq_getElem h]
  rfl

theorem pw (p : Nat) : 4294967296 ^ p = 2 ^ (32 * p) := by rw [show 4294967296 = 2 ^ 32 by decide, ← Nat.pow_mul]

structure L3 where
  a : Option Addr
  n : Nat
  c : Nat

set_option maxRecDepth 100000 in
set_option maxHeartbeats 1000000 in
theorem normP {P : Program} (hP : P = Tryd.prog) (R : RO) (a : Option Addr) (n c : Nat) (ds : List Int) (h : RI R .u32 a n ds) (hc : n ≤ c) (hn : n ≤ 100000) :
    RetP P 36 [.slice a n c] R fun R' r => ∃ a' n' c', r = .slice a' n' c' ∧ RI R' .u32 a' n' (cn (nv ds)) ∧ n' ≤ c' := by
  subst hP
  have hl := h.len
  have hdg := Dg.of_wf h.wf
  refine retP_vc (fz := []) Tryd.func36 rfl (by decide) rfl ok36 ?_
  intro P bin cmp cnv neg com bnot beq ofN toN at_ sub_ scmp cat sget ssz ssub elem fld_ hP hA
  conv => cbv
  refine ⟨L3, fun x => ⟨[(0, .v (.slice x.a x.n x.c))], R, [], 0, []⟩, fun m x => m = x.n ∧ x.n ≤ n ∧ RI R .u32 x.a x.n (ds.take x.n) ∧ nv (ds.take x.n) = nv ds ∧ x.n ≤ x.c,
    ⟨n, ⟨a, n, c⟩, ⟨⟨rfl, trivial⟩, rfl, trivial, rfl, .refl _⟩, rfl, Nat.le_refl _, by show RI R .u32 a n (ds.take n); rw [List.take_of_length_le (by omega)]; exact h, by show nv (ds.take n) = _; rw [List.take_of_length_le (by omega)], hc⟩, ?_⟩
  rintro m ⟨a1, n1, c1⟩ ⟨hm, hn1, h1, hnv, hc1⟩
  simp only at hm hn1 h1 hnv hc1
  conv => cbv
  have o1 := ofN_ hA n1
  by_cases h0 : n1 = 0
  · have cg : cmp .gtr (ofN n1) 0 = false := by rw [o1, cmp_gtr hA]; simp; omega
    simp (maxSteps := 10000000) only [cg]
    conv => cbv
    intro ρ R'' hle _ _
    have e : ds.take n1 = cn (nv ds) := by
      rw [← hnv, h0, List.take_zero, nv, cn0]
    exact ⟨a1, n1, c1, rfl, by rw [← e]; exact h1.le hle, hc1⟩
  have cg : cmp .gtr (ofN n1) 0 = true := by rw [o1, cmp_gtr hA]; simp; omega
  have es : bin .sub .i64 (ofN n1) 1 = ((n1 - 1 : Nat) : Int) := by rw [o1, sub_i64 hA (by omega)]; omega
  simp (maxSteps := 10000000) only [cg]
  conv => cbv
  refine ix_ri h1 o1 (n1 - 1) es (by omega) ?_
  refine ld_ri hA h1 (by rw [es]; omega) (by rw [es]; omega) ?_
  intro d hd hw
  rw [es] at hd
  have hd' : ds[n1 - 1]? = some d := by
    have e := getD_get (l := ds.take n1) (i := n1 - 1) (by simp; omega)
    rw [List.getElem?_take, if_pos (by omega)] at e
    rw [e, hd]
    rfl
  have htk : ds.take n1 = ds.take (n1 - 1) ++ [d] := by
    obtain ⟨j, hj⟩ : ∃ j, n1 = j + 1 := ⟨n1 - 1, by omega⟩
    rw [hj, List.take_add_one, Nat.add_sub_cancel]
    rw [hj, Nat.add_sub_cancel] at hd'
    rw [hd']
    rfl
  conv => cbv
  by_cases hd0 : d = 0
  · have ce : cmp .eql d 0 = true := by rw [cmp_eql hA]; simp; omega
    simp (maxSteps := 10000000) only [ce]
    conv => cbv
    refine ⟨0, n1 - 1, rfl, es.symm, by omega, by omega, ?_⟩
    intro a2 n2 c2 hn2 hc2 ha2
    have h2 := h1.part' (l := 0) (m := n1 - 1) (by omega) (by omega) hn2 hc1 ha2
    have e2 : ((ds.take n1).drop 0).take (n1 - 1 - 0) = ds.take n2 := by rw [List.drop_zero, List.take_take, hn2]; congr 1; omega
    rw [e2] at h2
    conv => cbv
    refine ⟨n1 - 1, ⟨a2, n2, c2⟩, by omega, ⟨⟨rfl, trivial⟩, rfl, trivial, rfl, .refl _⟩, by show n1 - 1 = n2; omega, by show n2 ≤ n; omega, h2, ?_, by show n2 ≤ c2; omega⟩
    show nv (ds.take n2) = _
    rw [← hnv, htk, nv_app, hd0, show n2 = n1 - 1 by omega]
    rfl
  · have ce : cmp .eql d 0 = false := by rw [cmp_eql hA]; simp; omega
    simp (maxSteps := 10000000) only [ce]
    conv => cbv
    intro ρ R'' hle _ _
    have e : ds.take n1 = cn (nv ds) := by
      rw [← hnv]
      refine cn_of (fun x hx => hdg x (List.mem_of_mem_take hx)) (.inr ?_)
      rw [htk]
      simpa using hd0
    exact ⟨a1, n1, c1, rfl, by rw [← e]; exact h1.le hle, hc1⟩

/-- How many bits a number has. -/
def Bl (V k : Nat) : Prop := (V = 0 ∧ k = 0) ∨ (1 ≤ k ∧ 2 ^ (k - 1) ≤ V ∧ V < 2 ^ k)

structure Lk where
  k : Int
  d : Int

set_option maxRecDepth 100000 in
set_option maxHeartbeats 1000000 in
theorem bitLenP {P : Program} (hP : P = Tryd.prog) (R : RO) (a : Option Addr) (n c V : Nat) (h : RI R .u32 a n (cn V)) (hn : n ≤ 100000) :
    RetP P 46 [.slice a n c] R fun _ r => ∃ (ki : Int) (k : Nat), r = .int .i64 ki ∧ ki = k ∧ Bl V k := by
  subst hP
  have hl := h.len
  refine retP_vc (fz := []) Tryd.func46 rfl (by decide) rfl ok46 ?_
  intro P bin cmp cnv neg com bnot beq ofN toN at_ sub_ scmp cat sget ssz ssub elem fld_ hP hA
  conv => cbv
  have o := ofN_ hA n
  by_cases h0 : n = 0
  · refine br_t (by rw [o, cmp_eql hA]; simp; omega) ?_
    conv => cbv
    intro ρ R'' _ _ _
    exact ⟨0, 0, rfl, rfl, .inl ⟨cn_nil.1 (List.eq_nil_of_length_eq_zero (by omega)), rfl⟩⟩
  refine br_f (by rw [o, cmp_eql hA]; simp; omega) ?_
  conv => cbv
  have es : bin .sub .i64 (ofN n) 1 = ((n - 1 : Nat) : Int) := by rw [o, sub_i64 hA (by omega)]; omega
  obtain ⟨p, hp⟩ : ∃ p, n = p + 1 := ⟨n - 1, by omega⟩
  have em : bin .mul .i64 32 (bin .sub .i64 (ofN n) 1) = ((32 * p : Nat) : Int) := by rw [es, mul_i64 hA (by omega)]; omega
  refine ix_ri h o (n - 1) es (by omega) ?_
  refine ld_ri hA h (by rw [es]; omega) (by rw [es]; omega) ?_
  intro d hd hw
  rw [es] at hd
  have hd' : (cn V)[p]? = some d := by
    rw [getD_get (by omega), hd]
    congr 2
    omega
  have hdv := cn_get hd'
  have hVn : V ≠ 0 := fun e => by rw [e, cn0] at hl; simp at hl; omega
  have hVl := cn_lt V
  have hVh := (cn_len V hVn).2
  rw [← hl, hp, Nat.pow_succ] at hVl
  rw [← hl, hp, Nat.add_sub_cancel] at hVh
  have hB := Nat.pow_pos (n := p) (show 0 < 4294967296 by decide)
  have hq : V / 4294967296 ^ p < 4294967296 := by rw [Nat.div_lt_iff_lt_mul hB, Nat.mul_comm]; exact hVl
  obtain ⟨D, hD⟩ : ∃ D, D = V / 4294967296 ^ p := ⟨_, rfl⟩
  rw [← hD] at hq hdv
  rw [Nat.mod_eq_of_lt hq] at hdv
  have hD0 : 1 ≤ D := by rw [hD, Nat.le_div_iff_mul_le hB]; omega
  conv => cbv
  refine ⟨Lk, fun x => ⟨[(4, .v (.int .u32 x.d)), (3, .v (.int .i64 x.k))], R, [], 0, []⟩,
    fun m x => ∃ j : Nat, x.k = (32 * p + j : Nat) ∧ x.d = (D / 2 ^ j : Nat) ∧ m = D / 2 ^ j ∧ (j = 0 ∨ D / 2 ^ (j - 1) ≠ 0) ∧ j ≤ 40,
    ⟨D, ⟨bin .mul .i64 32 (bin .sub .i64 (ofN n) 1), d⟩, ⟨⟨rfl, rfl, trivial⟩, rfl, trivial, rfl, .refl _⟩, 0, em, by show d = _; rw [hdv]; simp, by simp, .inl rfl, by omega⟩, ?_⟩
  rintro m ⟨k, dd⟩ ⟨j, hk, hdd, hm, hj, hj40⟩
  simp only at hk hdd
  conv => cbv
  by_cases hz : D / 2 ^ j = 0
  · refine br_f (by rw [cmp_neq hA, hdd, hz]; rfl) ?_
    conv => cbv
    intro ρ R'' _ _ _
    refine ⟨k, 32 * p + j, rfl, hk, .inr ?_⟩
    have hj0 : j ≠ 0 := fun e => by rw [e] at hz; simp at hz; omega
    have h1 : 2 ^ (j - 1) ≤ D := by
      rcases hj with e | e
      · exact absurd e hj0
      · exact Nat.le_of_not_lt fun e2 => e (Nat.div_eq_of_lt e2)
    have h2 : D < 2 ^ j := Nat.lt_of_not_le fun e2 => by
      have := Nat.div_pos e2 (Nat.pow_pos (show 0 < 2 by decide))
      omega
    have e1 : D * 4294967296 ^ p ≤ V := by rw [hD]; exact Nat.div_mul_le_self _ _
    have e2 : V < (D + 1) * 4294967296 ^ p := by
      have := Nat.lt_div_mul_add (a := V) hB
      rw [← hD] at this
      rw [Nat.add_mul]
      omega
    refine ⟨by omega, ?_, ?_⟩
    · rw [show 32 * p + j - 1 = (j - 1) + 32 * p by omega, Nat.pow_add, ← pw]
      exact Nat.le_trans (Nat.mul_le_mul_right _ h1) e1
    · rw [show 32 * p + j = j + 32 * p by omega, Nat.pow_add, ← pw]
      exact Nat.lt_of_lt_of_le e2 (Nat.mul_le_mul_right _ h2)
  · have hj32 : j < 32 := Nat.lt_of_not_le fun e => hz (Nat.div_eq_of_lt (Nat.lt_of_lt_of_le hq (by have := Nat.pow_le_pow_right (show 0 < 2 by decide) e; simpa using this)))
    refine br_t (by rw [cmp_neq hA, hdd]; exact bne_iff_ne.2 (Int.natCast_ne_zero.2 hz)) ?_
    conv => cbv
    have e3 : bin .shr .u32 dd 1 = ((D / 2 ^ (j + 1) : Nat) : Int) := by rw [hdd, shr_u32 hA (by decide), Nat.pow_succ, ← Nat.div_div_eq_div_mul]; show ((D / 2 ^ j : Nat) : Int) / 2 ^ 1 = _; omega
    refine ⟨by decide, ?_⟩
    have e4 : bin .add .i64 k 1 = ((32 * p + (j + 1) : Nat) : Int) := by rw [hk, add_i64 hA (by omega)]; omega
    refine ⟨D / 2 ^ (j + 1), ⟨bin .add .i64 k 1, bin .shr .u32 dd 1⟩, ?_, ⟨⟨rfl, rfl, trivial⟩, rfl, trivial, rfl, .refl _⟩, j + 1, e4, e3, rfl, .inr hz, by omega⟩
    rw [hm, Nat.pow_succ, ← Nat.div_div_eq_div_mul]
    omega

structure Lv where
  v : Int
  i : Int

set_option maxRecDepth 100000 in
set_option maxHeartbeats 1000000 in
theorem low64P {P : Program} (hP : P = Tryd.prog) (R : RO) (a : Option Addr) (n c : Nat) (xs : List Int) (h : RI R .u32 a n xs) (hn : n ≤ 100000) :
    RetP P 40 [.slice a n c] R fun _ r => ∃ w : Int, r = .int .u64 w ∧ w = (nv xs % 18446744073709551616 : Nat) := by
  subst hP
  have hl := h.len
  have hdg := Dg.of_wf h.wf
  refine retP_vc (fz := []) Tryd.func40 rfl (by decide) rfl ok40 ?_
  intro P bin cmp cnv neg com bnot beq ofN toN at_ sub_ scmp cat sget ssz ssub elem fld_ hP hA
  conv => cbv
  have o := ofN_ hA n
  refine ⟨Lv, fun x => ⟨[(4, .v (.int .i64 x.i)), (3, .v (.int .u64 x.v)), (0, .v (.slice a n c))], R, [], 0, []⟩,
    fun m x => ∃ i : Nat, x.i = i ∧ i ≤ 2 ∧ i ≤ n ∧ m = 2 - i ∧ x.v = (nv (xs.take i) : Nat), ⟨2, ⟨0, 0⟩, ⟨⟨rfl, rfl, rfl, trivial⟩, rfl, trivial, rfl, .refl _⟩, 0, rfl, by omega, by omega, rfl, rfl⟩, ?_⟩
  rintro m ⟨v, ii⟩ ⟨i, hi, h2, hin, hm, hv⟩
  simp only at hi hv
  have hlt := nv_lt (ds := xs.take i) fun x hx => hdg x (List.mem_of_mem_take hx)
  rw [List.length_take, Nat.min_eq_left (by omega)] at hlt
  have hsum : nv xs = nv (xs.take i) + 4294967296 ^ i * nv (xs.drop i) := by
    have := nv_app (xs.take i) (xs.drop i)
    rwa [List.take_append_drop, List.length_take, Nat.min_eq_left (by omega)] at this
  conv => cbv
  by_cases h1 : i < n
  case neg =>
    have cg : cmp .lss ii (ofN n) = false := by rw [o, cmp_lss hA]; simp; omega
    simp (maxSteps := 10000000) only [cg]
    conv => cbv
    intro ρ R'' _ _ _
    refine ⟨v, rfl, ?_⟩
    rw [hv, hsum, show xs.drop i = [] from List.drop_of_length_le (by omega), nv, Nat.mul_zero, Nat.add_zero]
    have : nv (xs.take i) < 18446744073709551616 := by
      refine Nat.lt_of_lt_of_le hlt ?_
      have := Nat.pow_le_pow_right (show 0 < 4294967296 by decide) h2
      simpa using this
    rw [Nat.mod_eq_of_lt this]
  have cg : cmp .lss ii (ofN n) = true := by rw [o, cmp_lss hA]; simp; omega
  simp (maxSteps := 10000000) only [cg]
  conv => cbv
  by_cases h3 : i = 2
  · refine br_f (by rw [cmp_lss hA]; simp; omega) ?_
    conv => cbv
    intro ρ R'' _ _ _
    refine ⟨v, rfl, ?_⟩
    rw [hv, hsum]
    rw [h3] at hlt ⊢
    simp only [Nat.reducePow] at hlt ⊢
    rw [Nat.add_mul_mod_self_left, Nat.mod_eq_of_lt hlt]
  refine br_t (by rw [cmp_lss hA]; simp; omega) ?_
  conv => cbv
  refine ix_ri h o i hi h1 ?_
  refine ld_ri hA h (by omega) (by omega) ?_
  intro d hd hw
  have hd' : xs[i]? = some d := by
    rw [getD_get (by omega), hd]
    congr 2
    omega
  have hdr := hdg d (List.mem_of_getElem? hd')
  conv => cbv
  obtain ⟨D, hD⟩ : ∃ D : Nat, d = D := ⟨d.toNat, by omega⟩
  have em : bin .mul .i64 32 ii = ((32 * i : Nat) : Int) := by rw [hi, mul_i64 hA (by omega)]; omega
  have ec : cnv .u64 d = (D : Int) := by rw [cnv_u64 hA (by omega), hD]
  have hp2 : (4294967296 : Nat) ^ i = 2 ^ (32 * i) := pw i
  have hb : nv (xs.take i) + D * 2 ^ (32 * i) < 18446744073709551616 := by
    rw [hp2] at hlt
    have hi01 : i = 0 ∨ i = 1 := by omega
    rcases hi01 with e | e <;> (rw [e] at hlt ⊢; simp only [Nat.reduceMul, Nat.reducePow] at hlt ⊢; omega)
  have ee : bin .or .u64 v (bin .shl .u64 (cnv .u64 d) (bin .mul .i64 32 ii)) = ((nv (xs.take (i + 1)) : Nat) : Int) := by
    rw [ec, hv, or64 hA (s := 32 * i) (by rw [← hp2]; exact hlt) (by omega) hb em, List.take_add_one, hd', nv_app, List.length_take, Nat.min_eq_left (by omega), hp2]
    show _ = ((nv (xs.take i) + 2 ^ (32 * i) * (d.toNat + 4294967296 * 0) : Nat) : Int)
    rw [hD, Int.toNat_natCast, Nat.mul_zero, Nat.add_zero, Nat.mul_comm D]
  refine ⟨by rw [em]; omega, ?_⟩
  refine ⟨2 - (i + 1), ⟨bin .or .u64 v (bin .shl .u64 (cnv .u64 d) (bin .mul .i64 32 ii)), bin .add .i64 ii 1⟩, by omega, ⟨⟨rfl, rfl, rfl, trivial⟩, rfl, trivial, rfl, .refl _⟩, i + 1, by show bin .add .i64 ii 1 = _; rw [hi, add_i64 hA (by omega)]; rfl, by omega, by omega, rfl, ee⟩
end Go.Proofs.YtepfbdfbfimefaaDoor.Co
end
