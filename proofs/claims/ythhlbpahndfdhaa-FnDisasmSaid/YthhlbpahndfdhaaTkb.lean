/- The reference cuts a script into tokens. -/
import Derived.Test.YthhlbpahndfdhaaTka
import Derived.Test.YthhlbpahndfdhaaSv
import Derived.Test.YthhlbpahndfdhaaTytok
set_option linter.unusedSimpArgs false
set_option linter.unusedVariables false
namespace Go.Proofs.Ythhlbpahndfdhaa.Tk
open Go Go.Se Go.Proofs Go.Proofs.Ythhlbpahndfdhaa.Tytok

/-- Cells of elements that read as a list. -/
def EachN {α : Type} (sz : Nat) (p : RO → List Value → α → Prop) (R : RO) (zs : List Value) (xs : List α) : Prop :=
  zs.length = xs.length * sz ∧ ∀ (i : Nat) (x : α), xs[i]? = some x → p R ((zs.drop (i * sz)).take sz) x

theorem EachN.nil {α : Type} {sz : Nat} {p : RO → List Value → α → Prop} {R : RO} : EachN sz p R [] [] := ⟨by simp, fun i x hx => by simp at hx⟩

theorem EachN.le {α : Type} {sz : Nat} {p : RO → List Value → α → Prop} {R R' : RO} {zs : List Value} {xs : List α} (h : EachN sz p R zs xs) (hp : ∀ cs x, p R cs x → p R' cs x) : EachN sz p R' zs xs :=
  ⟨h.1, fun i x hx => hp _ _ (h.2 i x hx)⟩

theorem EachN.app {α : Type} {sz : Nat} {p : RO → List Value → α → Prop} {R : RO} {zs cs : List Value} {xs : List α} {y : α} (h : EachN sz p R zs xs) (hc : cs.length = sz) (hy : p R cs y) : EachN sz p R (zs ++ cs) (xs ++ [y]) := by
  have h1 := h.1
  refine ⟨by simp [h1, hc, Nat.add_mul], fun i x hx => ?_⟩
  rw [List.getElem?_append] at hx
  split at hx
  · rename_i hi
    have := h.2 i x hx
    have h2 : (i + 1) * sz ≤ xs.length * sz := Nat.mul_le_mul_right _ hi
    rw [Nat.add_mul] at h2
    rw [List.drop_append, List.take_append_of_le_length (by simp; omega)]
    exact this
  · rename_i hi
    have hi0 : i = xs.length := by
      rcases Nat.lt_or_ge (i - xs.length) 1 with h' | h'
      · omega
      · rw [List.getElem?_eq_none (by simpa using h')] at hx; cases hx
    subst hi0
    simp at hx
    subst hx
    rw [← h1, List.drop_left, List.take_of_length_le (by omega)]
    exact hy

theorem PubRow.latN {α : Type} {p : RO → List Value → α → Prop} {R : RO} {r : Row} {xs : List α} (h : PubRow R r) (hn : r.n = xs.length) (hs : r.n ≠ 0 → r.a.isSome = true) (he : EachN r.sz p R r.xs xs) (hm : r.n ≤ maxLen) : LAt R r.sz p r.a r.n r.cap xs := by
  refine ⟨hn, ?_, hm, fun i x hx => ?_⟩
  · rcases Nat.eq_zero_or_pos r.n with h0 | h0
    · omega
    · obtain ⟨ad, ha⟩ := Option.isSome_iff_exists.1 (hs (by omega))
      obtain ⟨_, _, _, h3, _⟩ := h ad ha
      exact h3
  · have hi : i < xs.length := by
      rcases Nat.lt_or_ge i xs.length with h' | h'
      · exact h'
      · rw [List.getElem?_eq_none h'] at hx; cases hx
    obtain ⟨ad, ha⟩ := Option.isSome_iff_exists.1 (hs (by omega))
    obtain ⟨e1, cur, e2, e3, e4, e5⟩ := h ad ha
    have hp := he.2 i x hx
    have h1 := he.1
    have h2 : (i + 1) * r.sz ≤ xs.length * r.sz := Nat.mul_le_mul_right _ hi
    rw [Nat.add_mul] at h2
    refine ⟨ad, _, ha, by simp; omega, fun j u hu => ?_, hp⟩
    have hj : j < r.sz := by
      rcases Nat.lt_or_ge j r.sz with h' | h'
      · exact h'
      · rw [List.getElem?_eq_none (by simp; omega)] at hu; cases hu
    rw [List.getElem?_take, if_pos hj, List.getElem?_drop, ← e5, List.getElem?_take, hn, if_pos (by omega)] at hu
    rw [e1, cell_add, cell_add]
    simp only [rcell, e2]
    simpa using hu

theorem Base1.latN {α : Type} {p : RO → List Value → α → Prop} {rs rest : List Row} {a : Option Addr} {n c e sz : Nat} {zs : List Value} {xs : List α} {R : RO} (h : Base1 rs rest a n c e sz zs) (hp : PubR rs R) (hn : n = xs.length)
    (hs : n ≠ 0 → a.isSome = true) (he : EachN sz p R zs xs) (hm : n ≤ maxLen) : LAt R sz p a n c xs := by
  rcases h with ⟨rfl, rfl, rfl, rfl, rfl⟩ | rfl
  · have : xs = [] := List.eq_nil_of_length_eq_zero hn.symm
    subst this
    exact ⟨rfl, Nat.zero_le _, Nat.zero_le _, fun i x hx => by simp at hx⟩
  · exact PubRow.latN (r := ⟨a, n, c, e, sz, zs⟩) (hp _ (List.mem_cons_self ..)) hn hs he hm

def TokAt (R : RO) (cs : List Value) (t : Tok) : Prop := ∃ a n c, cs = [.int .i64 t.op, .slice a n c, .int .i64 t.pos] ∧ RI R .u8 a n t.data ∧ n ≤ maxLen

theorem TokAt.le {R R' : RO} (hl : R.le R') (cs : List Value) (x : Tok) (h : TokAt R cs x) : TokAt R' cs x :=
  let ⟨a, n, c, h1, h2, h3⟩ := h
  ⟨a, n, c, h1, h2.le hl, h3⟩

theorem wordN_range : ∀ (l : List Int), (∀ x ∈ l, 0 ≤ x ∧ x ≤ 255) → 0 ≤ wordN l ∧ wordN l < (256 ^ l.length : Nat)
  | [], _ => by simp [wordN]
  | x :: l, h => by
    have h1 := wordN_range l fun y hy => h y (by simp [hy])
    have h2 := h x (by simp)
    simp only [wordN, List.length_cons, Nat.pow_succ]
    omega

theorem wordN_u32 {l : List Int} (h : ∀ x ∈ l, (Lit.int .u8 x).wf = true) (hl : l.length ≤ 4) : 0 ≤ wordN l ∧ wordN l ≤ 4294967295 := by
  have h1 := wordN_range l fun x hx => wf_u8 (h x hx)
  have h2 : (256 : Nat) ^ l.length ≤ 256 ^ 4 := Nat.pow_le_pow_right (by decide) hl
  omega

theorem drop_get {xs : List Int} {j : Nat} (h : j < xs.length) : xs.drop j = xs.getD j 0 :: xs.drop (j + 1) := by
  rw [List.drop_eq_getElem_cons h, List.getD_eq_getElem?_getD, List.getElem?_eq_getElem h]
  rfl

set_option maxRecDepth 100000 in
theorem word {P : Program} (hP : P = Try.prog) (R : RO) (a : Option Addr) (n c : Nat) (xs : List Int) (h : RI R .u8 a n xs) (hn : n ≤ 1000000) (wi : Int) (w : Nat) (hw : wi = w) (h4 : w ≤ 4) :
    RetP P 22 [.slice a n c, .int .i64 wi] R fun _ v => ∃ r b, v = .tuple #[.int .i64 r, .bool b] ∧ ((n < w ∧ r = 0 ∧ b = false) ∨ (w ≤ n ∧ b = true ∧ r = wordN (xs.take w))) := by
  subst hP
  have hl := h.len
  refine retP_vc (fz := []) Try.func22 rfl (by decide) rfl ok22 ?_
  intro P bin cmp cnv neg com bnot beq ofN toN at_ sub_ scmp cat sget ssz ssub elem fld_ hP hA
  conv => cbv
  have o := ofN_ hA n
  by_cases h0 : n < w
  · refine br_t (by rw [o, cmp_lss hA]; simp; omega) ?_
    conv => cbv
    intro ρ R'' _ _ _
    exact ⟨_, _, rfl, .inl ⟨h0, rfl, rfl⟩⟩
  refine br_f (by rw [o, cmp_lss hA]; simp; omega) ?_
  conv => cbv
  have e0 : bin .sub .i64 wi 1 = (w : Int) - 1 := by rw [hw, sub_i64 hA (by omega)]
  refine ⟨Int × Int, fun x => ⟨[(7, .v (.int .i64 x.1)), (6, .v (.int .i64 x.2)), (0, .v (.slice a n c))], R, [], 0, []⟩,
    fun k x => ∃ j : Nat, x.1 = (j : Int) - 1 ∧ j ≤ w ∧ k = j ∧ x.2 = wordN ((xs.take w).drop j),
    ⟨w, (bin .sub .i64 wi 1, 0), ⟨⟨rfl, rfl, rfl, trivial⟩, rfl, trivial, rfl, .refl _⟩, w, e0, by omega, rfl, by rw [List.drop_of_length_le (by simp; omega)]; rfl⟩, ?_⟩
  rintro k ⟨i, s⟩ ⟨j, hi, hj, hk, hs⟩
  simp only at hi hs
  conv => cbv
  by_cases hpos : 0 < j
  case neg =>
    refine br_f (by rw [cmp_geq hA]; simp; omega) ?_
    conv => cbv
    intro ρ R'' _ _ _
    obtain rfl : j = 0 := by omega
    exact ⟨_, _, rfl, .inr ⟨by omega, rfl, hs⟩⟩
  obtain ⟨m, rfl⟩ : ∃ m, j = m + 1 := ⟨j - 1, by omega⟩
  refine br_t (by rw [cmp_geq hA]; simp; omega) ?_
  conv => cbv
  refine ix_u8 hA h m (by omega) (by omega) ?_
  refine ld_u8 hA h (by omega) (by omega) ?_
  intro b hb b0 b1
  conv => cbv
  have him : i.toNat = m := by omega
  rw [him] at hb
  have hsr : 0 ≤ s ∧ s ≤ 4294967295 := by
    rw [hs]
    exact wordN_u32 (fun x hx => h.wf x (List.mem_of_mem_take (List.mem_of_mem_drop hx))) (by simp; omega)
  have e1 : bin .mul .i64 s 256 = s * 256 := mul_i64 hA (by omega)
  have e2 : cnv .i64 b = b := cnv_i64 hA (by omega)
  refine ⟨m, (i - 1, s * 256 + b), by omega, ⟨⟨?_, ?_, rfl, trivial⟩, rfl, trivial, rfl, .refl _⟩, m, by show i - 1 = (m : Int) - 1; omega, by omega, rfl, ?_⟩
  · rw [sub_i64 hA (by omega)]
    rfl
  · rw [e1, e2, add_i64 hA (by omega)]
    rfl
  · show s * 256 + b = _
    have hd := drop_get (xs := xs.take w) (j := m) (by simp; omega)
    have hg : (xs.take w).getD m 0 = xs.getD m 0 := by simp only [List.getD_eq_getElem?_getD, List.getElem?_take]; rw [if_pos (by omega)]
    rw [hd, wordN, hg, ← hb, ← hs]
    omega
end Go.Proofs.Ythhlbpahndfdhaa.Tk
