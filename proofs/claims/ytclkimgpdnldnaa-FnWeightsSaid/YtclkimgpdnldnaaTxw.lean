/- The sizes of a transaction, as the package counts them. -/
import Derived.Test.YtclkimgpdnldnaaTxb4
set_option linter.unusedSimpArgs false
set_option linter.unusedVariables false
namespace Go.Proofs.Ytclkimgpdnldnaa.Tx
open Go Go.Se Go.Proofs Go.Proofs.Ytclkimgpdnldnaa.Tytb


set_option maxRecDepth 100000 in
theorem vSize {P : Program} (hP : P = Try.prog) (R : RO) (vv : Int) (v : Nat) (hv : vv = v) : RetP P 116 [.int .u64 vv] R fun _ x => ∃ r : Int, x = .int .i64 r ∧ r = (vlen v : Nat) := by
  subst hP
  refine retP_vc (fz := []) Try.func116 rfl (by decide) rfl ok116 ?_
  intro P bin cmp cnv neg com bnot beq ofN toN at_ sub_ scmp cat sget ssz ssub elem fld_ hP hA
  conv => cbv
  by_cases h1 : v < 253
  · refine br_t (by rw [cmp_lss hA]; simp; omega) ?_
    conv => cbv
    intro ρ R'' _ _ _
    refine ⟨_, rfl, ?_⟩
    rw [vlen, if_pos h1]; rfl
  refine br_f (by rw [cmp_lss hA]; simp; omega) ?_
  conv => cbv
  by_cases h2 : v < 65536
  · refine br_t (by rw [cmp_leq hA]; simp; omega) ?_
    conv => cbv
    intro ρ R'' _ _ _
    refine ⟨_, rfl, ?_⟩
    rw [vlen, if_neg h1, if_pos h2]; rfl
  refine br_f (by rw [cmp_leq hA]; simp; omega) ?_
  conv => cbv
  by_cases h3 : v < 4294967296
  · refine br_t (by rw [cmp_leq hA]; simp; omega) ?_
    conv => cbv
    intro ρ R'' _ _ _
    refine ⟨_, rfl, ?_⟩
    rw [vlen, if_neg h1, if_neg h2, if_pos h3]; rfl
  refine br_f (by rw [cmp_leq hA]; simp; omega) ?_
  conv => cbv
  intro ρ R'' _ _ _
  refine ⟨_, rfl, ?_⟩
  rw [vlen, if_neg h1, if_neg h2, if_neg h3]; rfl

def inSz (g : GIn) : Nat := 40 + vlen g.script.length + g.script.length
def outSz (g : GOut) : Nat := 8 + vlen g.pk.length + g.pk.length
def witSz (w : List (List Int)) : Nat := vlen w.length + (w.map fun x => vlen x.length + x.length).sum

theorem flat_sum {α : Type} (f : α → List Int) (g : α → Nat) : ∀ (l : List α), (∀ x ∈ l, (f x).length = g x) → ((l.map f).flatten).length = (l.map g).sum
  | [], _ => rfl
  | x :: l, h => by
    have := flat_sum f g l fun y hy => h y (by simp [hy])
    simp only [List.map_cons, List.flatten_cons, List.length_append, List.sum_cons, this, h x (by simp)]

theorem inB_len (g : GIn) (h : g.hash.length = 32) : (inB g).length = inSz g := by
  simp only [inB, List.length_append, h, le_len, vb_len, inSz]
  omega
theorem outB_len (g : GOut) : (outB g).length = outSz g := by
  simp only [outB, List.length_append, le_len, vb_len, outSz]
  omega
theorem witB_len (w : List (List Int)) : (witB w).length = witSz w := by
  simp only [witB, List.length_append, vi_len, witSz]
  rw [flat_sum vb (fun x => vlen x.length + x.length) w (fun x _ => vb_len x)]

def bsz (g : GTx) : Nat := 8 + vlen g.ins.length + vlen g.outs.length + (g.ins.map inSz).sum + (g.outs.map outSz).sum
def fsz (g : GTx) : Nat := bsz g + if hw g then 2 + (g.ins.map fun q => witSz q.wit).sum else 0

theorem txB_len (g : GTx) (h : ∀ x ∈ g.ins, x.hash.length = 32) (W : Bool) : (txB g W).length = bsz g + if W then 2 + (g.ins.map fun q => witSz q.wit).sum else 0 := by
  have h1 := flat_sum inB inSz g.ins (fun x hx => inB_len x (h x hx))
  have h2 := flat_sum outB outSz g.outs (fun x _ => outB_len x)
  have h3 := flat_sum (fun q : GIn => witB q.wit) (fun q => witSz q.wit) g.ins (fun x _ => witB_len _)
  cases W
  · simp only [txB, List.length_append, le_len, vi_len, h1, h2, bsz, Bool.false_eq_true, if_false, List.length_nil]
    omega
  · simp only [txB, List.length_append, le_len, vi_len, h1, h2, h3, bsz, if_true, List.length_cons, List.length_nil]
    omega

theorem inSz_le (g : GIn) : inSz g ≤ isz g := by
  have := vlen_le g.script.length
  simp only [inSz, isz]; omega
theorem outSz_le (g : GOut) : outSz g ≤ osz g := by
  have := vlen_le g.pk.length
  simp only [outSz, osz]; omega
theorem sum_mono {α : Type} (f g : α → Nat) : ∀ (l : List α) (i : Nat), (∀ x ∈ l, f x ≤ g x) → ((l.take i).map f).sum ≤ (l.map g).sum
  | [], i, _ => by simp
  | x :: l, 0, _ => by simp
  | x :: l, i + 1, h => by
    have h1 := sum_mono f g l i (fun y hy => h y (by simp [hy]))
    have h2 := h x (by simp)
    simp only [List.take_succ_cons, List.map_cons, List.sum_cons]
    omega
theorem witSz_le (g : GIn) : witSz g.wit ≤ isz g := by
  rw [← witB_len]; exact witB_le g


set_option maxRecDepth 100000 in
theorem inSize {P : Program} (hP : P = Try.prog) (R : RO) (ad : Addr) (ds : List Value) (g : GIn) (hc : CellsAt R ad ds) (h : InAt R ds g) (hn : g.script.length ≤ 100000000) : RetP P 117 [.pointer (some ad)] R fun _ x => ∃ r : Int, x = .int .i64 r ∧ r = (inSz g : Nat) := by
  subst hP
  obtain ⟨b, m, d, LV, e1, hm⟩ : ∃ b m d, ds[33]? = some (.slice b m d) ∧ RI R .u8 b m g.script ∧ True := by
    (obtain ⟨a, n, c, a2, n2, c2, rfl, hh, h1, h2, h3, h4, -⟩ := h; exact ⟨a, n, c, by rw [List.getElem?_append_right (by rw [ints_len, hh]; omega), ints_len, hh]; rfl, h4, trivial⟩)
  have hl := e1.len
  refine retP_vc (fz := []) Try.func117 rfl (by decide) rfl ok117 ?_
  intro P bin cmp cnv neg com bnot beq ofN toN at_ sub_ scmp cat sget ssz ssub elem fld_ hP hA
  conv => cbv
  refine ⟨[0, 1, 2, 3, 4, 5, 8, 9, 10, 11, 12, 6, 7, 13, 14], [], mix hP, by kernel_rfl, ?_⟩
  conv => cbv
  have om := ofN_ hA m
  have hv := vlen_le g.script.length
  refine ld_at hA hc 33 LV ?_
  conv => cbv
  refine ld_at hA hc 33 LV ?_
  conv => cbv
  have ev : cnv .u64 (ofN m) = ((g.script.length : Nat) : Int) := by rw [om, cnv_u64 hA (by omega)]; omega
  refine (vSize hP R _ g.script.length ev).callQ rfl ?_
  rintro _ ⟨r, rfl, hr⟩
  conv => cbv
  refine ⟨⟨trivial, .refl _⟩, ?_⟩
  intro ρ R'' _ _ _
  refine ⟨_, rfl, ?_⟩
  have a1 : bin .add .i64 40 r = 40 + r := add_i64 hA (by omega)
  show bin .add .i64 (bin .add .i64 40 r) (ofN m) = ((inSz g : Nat) : Int)
  rw [a1, om, add_i64 hA (by omega), hr, inSz]
  omega

set_option maxRecDepth 100000 in
theorem outSize {P : Program} (hP : P = Try.prog) (R : RO) (ad : Addr) (ds : List Value) (g : GOut) (hc : CellsAt R ad ds) (h : OutAt R ds g) (hn : g.pk.length ≤ 100000000) : RetP P 118 [.pointer (some ad)] R fun _ x => ∃ r : Int, x = .int .i64 r ∧ r = (outSz g : Nat) := by
  subst hP
  obtain ⟨b, m, d, LV, e1, hm⟩ : ∃ b m d, ds[1]? = some (.slice b m d) ∧ RI R .u8 b m g.pk ∧ True := by
    (obtain ⟨a, n, c, rfl, h1, h2, -⟩ := h; exact ⟨a, n, c, rfl, h2, trivial⟩)
  have hl := e1.len
  refine retP_vc (fz := []) Try.func118 rfl (by decide) rfl ok118 ?_
  intro P bin cmp cnv neg com bnot beq ofN toN at_ sub_ scmp cat sget ssz ssub elem fld_ hP hA
  conv => cbv
  refine ⟨[0, 1, 2, 3, 4, 5, 8, 9, 10, 11, 12, 6, 7, 13, 14], [], mix hP, by kernel_rfl, ?_⟩
  conv => cbv
  have om := ofN_ hA m
  have hv := vlen_le g.pk.length
  refine ld_at hA hc 1 LV ?_
  conv => cbv
  refine ld_at hA hc 1 LV ?_
  conv => cbv
  have ev : cnv .u64 (ofN m) = ((g.pk.length : Nat) : Int) := by rw [om, cnv_u64 hA (by omega)]; omega
  refine (vSize hP R _ g.pk.length ev).callQ rfl ?_
  rintro _ ⟨r, rfl, hr⟩
  conv => cbv
  refine ⟨⟨trivial, .refl _⟩, ?_⟩
  intro ρ R'' _ _ _
  refine ⟨_, rfl, ?_⟩
  have a1 : bin .add .i64 8 r = 8 + r := add_i64 hA (by omega)
  show bin .add .i64 (bin .add .i64 8 r) (ofN m) = ((outSz g : Nat) : Int)
  rw [a1, om, add_i64 hA (by omega), hr, outSz]
  omega

set_option maxRecDepth 100000 in
theorem witSize {P : Program} (hP : P = Try.prog) (R : RO) (a : Option Addr) (n c : Nat) (w : List (List Int)) (h : LAt R 1 BAt a n c w) (hn : (w.map wsz).sum ≤ 100000000) : RetP P 95 [.slice a n c] R fun _ x => ∃ r : Int, x = .int .i64 r ∧ r = (witSz w : Nat) := by
  subst hP
  have hl := h.len
  have hs4 := len_sum wsz w (fun x _ => by unfold wsz; omega)
  have hvw := vlen_le w.length
  refine retP_vc (fz := []) Try.func95 rfl (by decide) rfl ok95 ?_
  intro P bin cmp cnv neg com bnot beq ofN toN at_ sub_ scmp cat sget ssz ssub elem fld_ hP hA
  conv => cbv
  have o := ofN_ hA n
  have e1 : cnv .u64 (ofN n) = ((w.length : Nat) : Int) := by rw [o, cnv_u64 hA (by omega)]; omega
  refine (vSize hP R _ w.length e1).callQ rfl ?_
  rintro _ ⟨r0, rfl, hr0⟩
  conv => cbv
  refine ⟨Int × Int, fun x => ⟨[(12, .v (.int .i64 x.1)), (3, .v (.int .i64 x.2)), (11, .v (.int .i64 (ofN n))), (10, .v (.slice a n c))], R, [], 0, []⟩,
    fun k x => ∃ j : Nat, x.1 = j ∧ j ≤ n ∧ k = n - j ∧ x.2 = (vlen w.length + ((w.take j).map fun x => vlen x.length + x.length).sum : Nat),
    ⟨n, (0, r0), ⟨⟨rfl, rfl, rfl, rfl, trivial⟩, rfl, trivial, rfl, .refl _⟩, 0, rfl, by omega, rfl, by simpa using hr0⟩, ?_⟩
  rintro k ⟨i, s⟩ ⟨j, hi, hj, hk, hs⟩
  simp only at hi hs
  conv => cbv
  by_cases hlt : j < n
  case neg =>
    refine br_f (by rw [o, cmp_lss hA]; simp; omega) ?_
    conv => cbv
    intro ρ R'' _ _ _
    refine ⟨_, rfl, ?_⟩
    rw [List.take_of_length_le (by omega)] at hs
    exact hs
  refine br_t (by rw [o, cmp_lss hA]; simp; omega) ?_
  conv => cbv
  obtain ⟨q, hxq⟩ : ∃ q, w[j]? = some q := ⟨_, List.getElem?_eq_getElem (by omega)⟩
  have hq := mem_sum wsz (List.mem_of_getElem? hxq)
  have h9 : wsz q = 9 + q.length := rfl
  refine ix_at hA h j hi (by omega) ?_
  refine ld_elem hA h j hi hxq ?_
  rintro _ - ⟨b, m, d, rfl, f1, f2, f3⟩
  refine ⟨_, rfl, ?_⟩
  conv => cbv
  have hm := f1.len
  have om := ofN_ hA m
  have ev : cnv .u64 (ofN m) = ((q.length : Nat) : Int) := by rw [om, cnv_u64 hA (by omega)]; omega
  have hvq := vlen_le q.length
  have hsm := sum_mono (fun x : List Int => vlen x.length + x.length) wsz w j (fun x _ => by have := vlen_le x.length; unfold wsz; omega)
  refine (vSize hP R _ q.length ev).callQ rfl ?_
  rintro _ ⟨r, rfl, hr⟩
  conv => cbv
  have a1 : bin .add .i64 s r = s + r := add_i64 hA (by omega)
  have a2 : bin .add .i64 (bin .add .i64 s r) (ofN m) = s + r + m := by rw [a1, om, add_i64 hA (by omega)]
  refine ⟨n - (j + 1), (i + 1, _), by omega, ⟨⟨?_, rfl, rfl, rfl, trivial⟩, rfl, trivial, rfl, .refl _⟩, j + 1, by show i + 1 = ((j + 1 : Nat) : Int); omega, by omega, rfl, ?_⟩
  · rw [add_i64 hA (by omega)]
    rfl
  · show bin .add .i64 (bin .add .i64 s r) (ofN m) = ((_ : Nat) : Int)
    rw [a2, sum_succ (fun x : List Int => vlen x.length + x.length) hxq]
    omega
end Go.Proofs.Ytclkimgpdnldnaa.Tx
