/- The height of a coinbase: the numbers. -/
import Derived.Test.YtepfbdfbfimefaaDoorSy
set_option linter.unusedSimpArgs false
set_option linter.unusedVariables false
namespace Go.Proofs.YtepfbdfbfimefaaDoor.Ht
open Go Go.Se

/-- A number's bytes, the lowest first. -/
def dl (v : Nat) : List Int := if h : v = 0 then [] else ((v % 256 : Nat) : Int) :: dl (v / 256)
termination_by v
decreasing_by omega

theorem dl0 : dl 0 = [] := by rw [dl]; rfl
theorem dlS {v : Nat} (h : v ≠ 0) : dl v = ((v % 256 : Nat) : Int) :: dl (v / 256) := by rw [dl, dif_neg h]

/-- The number as a script has it: one byte more where the highest bit would be the sign. -/
def sn (v : Nat) : List Int := if 128 ≤ (dl v).getLastD 0 then dl v ++ [0] else dl v

/-- How the script of a coinbase begins. -/
def hs (v : Nat) : List Int := if v = 0 then [0] else if v ≤ 16 then [80 + (v : Int)] else ((sn v).length : Int) :: sn v

theorem dl1 {v : Nat} (h : v ≠ 0) (h2 : v < 256) : dl v = [(v : Int)] := by
  rw [dlS h, show v / 256 = 0 by omega, dl0, show v % 256 = v by omega]
theorem dl2 {v : Nat} (h : 256 ≤ v) (h2 : v < 65536) : dl v = [((v % 256 : Nat) : Int), ((v / 256 : Nat) : Int)] := by
  rw [dlS (by omega), dl1 (by omega) (by omega)]
theorem dl3 {v : Nat} (h : 65536 ≤ v) (h2 : v < 16777216) : dl v = [((v % 256 : Nat) : Int), ((v / 256 % 256 : Nat) : Int), ((v / 65536 : Nat) : Int)] := by
  rw [dlS (by omega), dl2 (by omega) (by omega), Nat.div_div_eq_div_mul]
theorem dl4 {v : Nat} (h : 16777216 ≤ v) (h2 : v < 4294967296) : dl v = [((v % 256 : Nat) : Int), ((v / 256 % 256 : Nat) : Int), ((v / 65536 % 256 : Nat) : Int), ((v / 16777216 : Nat) : Int)] := by
  rw [dlS (by omega), dl3 (by omega) (by omega), Nat.div_div_eq_div_mul, Nat.div_div_eq_div_mul]

theorem dl_ne {v : Nat} (h : v ≠ 0) : dl v ≠ [] := by rw [dlS h]; exact List.cons_ne_nil _ _

/-- The forms of a height's bytes. -/
inductive Fm (v : Nat) : Prop where
  | a (h : dl v = [(v : Int)]) (h2 : sn v = [(v : Int)]) (k : v < 128)
  | b (h : dl v = [(v : Int)]) (h2 : sn v = [(v : Int), 0]) (k : 128 ≤ v ∧ v < 256)
  | c (x y : Int) (h : dl v = [x, y]) (h2 : sn v = [x, y]) (hv : x = (v % 256 : Nat) ∧ y = (v / 256 : Nat)) (k : 256 ≤ v ∧ v < 32768)
  | d (x y : Int) (h : dl v = [x, y]) (h2 : sn v = [x, y, 0]) (hv : x = (v % 256 : Nat) ∧ y = (v / 256 : Nat)) (k : 32768 ≤ v ∧ v < 65536)
  | e (x y z : Int) (h : dl v = [x, y, z]) (h2 : sn v = [x, y, z]) (hv : x = (v % 256 : Nat) ∧ y = (v / 256 % 256 : Nat) ∧ z = (v / 65536 : Nat)) (k : 65536 ≤ v ∧ v < 8388608)
  | f (x y z : Int) (h : dl v = [x, y, z]) (h2 : sn v = [x, y, z, 0]) (hv : x = (v % 256 : Nat) ∧ y = (v / 256 % 256 : Nat) ∧ z = (v / 65536 : Nat)) (k : 8388608 ≤ v ∧ v < 16777216)
  | g (x y z w : Int) (h : dl v = [x, y, z, w]) (h2 : sn v = [x, y, z, w]) (hv : x = (v % 256 : Nat) ∧ y = (v / 256 % 256 : Nat) ∧ z = (v / 65536 % 256 : Nat) ∧ w = (v / 16777216 : Nat)) (k : 16777216 ≤ v)

theorem fm {v : Nat} (h : v ≠ 0) (hv : v < 2147483648) : Fm v := by
  by_cases h1 : v < 256
  · have e := dl1 h h1
    by_cases k : v < 128
    · exact .a e (by rw [sn, e, if_neg (by simp; omega)]) k
    · exact .b e (by rw [sn, e, if_pos (by simp; omega)]; rfl) ⟨by omega, h1⟩
  by_cases h2 : v < 65536
  · have e := dl2 (by omega) h2
    by_cases k : v < 32768
    · exact .c _ _ e (by rw [sn, e, if_neg (by simp; omega)]) ⟨rfl, rfl⟩ ⟨by omega, k⟩
    · exact .d _ _ e (by rw [sn, e, if_pos (by simp; omega)]; rfl) ⟨rfl, rfl⟩ ⟨by omega, h2⟩
  by_cases h3 : v < 16777216
  · have e := dl3 (by omega) h3
    by_cases k : v < 8388608
    · exact .e _ _ _ e (by rw [sn, e, if_neg (by simp; omega)]) ⟨rfl, rfl, rfl⟩ ⟨by omega, k⟩
    · exact .f _ _ _ e (by rw [sn, e, if_pos (by simp; omega)]; rfl) ⟨rfl, rfl, rfl⟩ ⟨by omega, h3⟩
  have e := dl4 (by omega) (by omega : v < 4294967296)
  exact .g _ _ _ _ e (by rw [sn, e, if_neg (by simp; omega)]) ⟨rfl, rfl, rfl, rfl⟩ (by omega)

/-- The four bytes of a height. -/
def b4 (v : Nat) : List Int := [((v % 256 : Nat) : Int), ((v / 256 % 256 : Nat) : Int), ((v / 65536 % 256 : Nat) : Int), ((v / 16777216 : Nat) : Int)]

theorem sn_b4 {v : Nat} (h : v ≠ 0) (hv : v < 2147483648) : 1 ≤ (sn v).length ∧ (sn v).length ≤ 4 ∧ sn v ++ [0, 0, 0, 0].drop (sn v).length = b4 v := by
  cases fm h hv with
  | a h h2 k =>
    rw [h2]
    refine ⟨by simp, by simp, ?_⟩
    show [(v : Int), 0, 0, 0] = b4 v
    rw [b4, show v % 256 = v by omega, show v / 256 % 256 = 0 by omega, show v / 65536 % 256 = 0 by omega, show v / 16777216 = 0 by omega]
    rfl
  | b h h2 k =>
    rw [h2]
    refine ⟨by simp, by simp, ?_⟩
    show [(v : Int), 0, 0, 0] = b4 v
    rw [b4, show v % 256 = v by omega, show v / 256 % 256 = 0 by omega, show v / 65536 % 256 = 0 by omega, show v / 16777216 = 0 by omega]
    rfl
  | c x y h h2 hv k =>
    rw [h2]
    refine ⟨by simp, by simp, ?_⟩
    obtain ⟨rfl, rfl⟩ := hv
    show [((v % 256 : Nat) : Int), ((v / 256 : Nat) : Int), 0, 0] = b4 v
    rw [b4, show v / 256 % 256 = v / 256 by omega, show v / 65536 % 256 = 0 by omega, show v / 16777216 = 0 by omega]
    rfl
  | d x y h h2 hv k =>
    rw [h2]
    refine ⟨by simp, by simp, ?_⟩
    obtain ⟨rfl, rfl⟩ := hv
    show [((v % 256 : Nat) : Int), ((v / 256 : Nat) : Int), 0, 0] = b4 v
    rw [b4, show v / 256 % 256 = v / 256 by omega, show v / 65536 % 256 = 0 by omega, show v / 16777216 = 0 by omega]
    rfl
  | e x y z h h2 hv k =>
    rw [h2]
    refine ⟨by simp, by simp, ?_⟩
    obtain ⟨rfl, rfl, rfl⟩ := hv
    show [((v % 256 : Nat) : Int), ((v / 256 % 256 : Nat) : Int), ((v / 65536 : Nat) : Int), 0] = b4 v
    rw [b4, show v / 65536 % 256 = v / 65536 by omega, show v / 16777216 = 0 by omega]
    rfl
  | f x y z h h2 hv k =>
    rw [h2]
    refine ⟨by simp, by simp, ?_⟩
    obtain ⟨rfl, rfl, rfl⟩ := hv
    show [((v % 256 : Nat) : Int), ((v / 256 % 256 : Nat) : Int), ((v / 65536 : Nat) : Int), 0] = b4 v
    rw [b4, show v / 65536 % 256 = v / 65536 by omega, show v / 16777216 = 0 by omega]
    rfl
  | g x y z w h h2 hv k =>
    rw [h2]
    refine ⟨by simp, by simp, ?_⟩
    obtain ⟨rfl, rfl, rfl, rfl⟩ := hv
    rfl

theorem dl_wf : ∀ (v : Nat), ∀ x ∈ dl v, 0 ≤ x ∧ x ≤ 255 := by
  intro v
  induction v using Nat.strongRecOn with
  | _ v ih =>
    intro x hx
    by_cases h : v = 0
    · rw [h, dl0] at hx; cases hx
    · rw [dlS h] at hx
      rcases List.mem_cons.1 hx with rfl | hx
      · omega
      · exact ih _ (by omega) x hx

theorem sn_wf (v : Nat) : ∀ x ∈ sn v, 0 ≤ x ∧ x ≤ 255 := by
  intro x hx
  rw [sn] at hx
  split at hx
  · rcases List.mem_append.1 hx with hx | hx
    · exact dl_wf v x hx
    · simp at hx; omega
  · exact dl_wf v x hx

theorem wf8 {x : Int} (h : 0 ≤ x ∧ x ≤ 255) : (Lit.int .u8 x).wf = true := by
  simp [Lit.wf, IntKind.min, IntKind.max, IntKind.bits, IntKind.signed]
  omega

theorem hs_wf {v : Nat} (hv : v < 2147483648) : ∀ x ∈ hs v, (Lit.int .u8 x).wf = true := by
  intro x hx
  rw [hs] at hx
  split at hx
  · simp at hx; subst hx; exact wf8 (by omega)
  split at hx
  · simp at hx; subst hx; exact wf8 (by omega)
  · rcases List.mem_cons.1 hx with rfl | hx
    · have := sn_b4 (by assumption) hv; exact wf8 (by omega)
    · exact wf8 (sn_wf v x hx)

theorem hs_len {v : Nat} (hv : v < 2147483648) : 1 ≤ (hs v).length ∧ (hs v).length ≤ 5 := by
  rw [hs]
  split
  · simp
  split
  · simp
  · have := sn_b4 (by assumption) hv
    simp
    omega
end Go.Proofs.YtepfbdfbfimefaaDoor.Ht
