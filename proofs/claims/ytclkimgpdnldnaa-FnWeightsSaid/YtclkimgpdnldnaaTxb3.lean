/- A transaction's bytes, as the reference writes them: outputs, witnesses; has it witnesses. -/
import Derived.Test.YtclkimgpdnldnaaTxb2
set_option linter.unusedSimpArgs false
set_option linter.unusedVariables false
namespace Go.Proofs.Ytclkimgpdnldnaa.Tx
open Go Go.Se Go.Proofs Go.Proofs.Ytclkimgpdnldnaa.Tytb


theorem wrap_u64 (x : Int) : IntKind.u64.wrap x = x % 18446744073709551616 := by
  simp only [IntKind.wrap, IntKind.bits, IntKind.signed, IntKind.min, IntKind.max]
  simp
theorem wrap_u32 (x : Int) : IntKind.u32.wrap x = x % 4294967296 := by
  simp only [IntKind.wrap, IntKind.bits, IntKind.signed, IntKind.min, IntKind.max]
  simp

set_option maxRecDepth 100000 in
theorem outBytes {P : Program} (hP : P = Try.prog) (R : RO) (cs : List Value) (g : GOut) (h : OutAt R cs g) (hn : g.pk.length ≤ 100000000) : RowP P 68 [.agg cs.toArray] R 5 1 (Bs .u8 (outB g)) := by
  subst hP
  obtain ⟨a, n, c, rfl, h1, h2, h3, h4⟩ := h
  obtain ⟨value, pk⟩ := g
  simp only at h1 h2 hn ⊢
  have hl := h2.len
  refine rowP_vc (fz := []) Try.func68 rfl (by decide) rfl ok68 ?_
  intro P bin cmp cnv neg com bnot beq ofN toN at_ sub_ scmp cat sget ssz ssub elem fld_ hP hA
  conv => cbv
  refine ⟨[0, 1, 2, 4, 5, 3, 6, 7, 8], [6, 7], mix hP, by kernel_rfl, ?_⟩
  conv => cbv
  have e1 : cnv .u64 value = (((value % 18446744073709551616).toNat : Nat) : Int) := by rw [cnv_ hA, wrap_u64]; omega
  refine (little hP R _ 8 (value % 18446744073709551616).toNat 8 e1 rfl (by omega) (by decide)).call rfl ?_
  intro b2 m2 d2 y2 rs2 hb2 hs2 ⟨hm2, hy2⟩
  have hk2 := hm2
  rw [le_len] at hk2
  conv => cbv
  refine ⟨⟨⟨rfl, trivial⟩, hb2.sub⟩, ?_⟩
  refine (varBytes hP R a n c pk h2 (by omega)).call rfl ?_
  intro b4 m4 d4 y4 rs4 hb4 hs4 ⟨hm4, hy4⟩
  have hk4 := hm4
  rw [vb, List.length_append, vi_len] at hk4
  have hv4 := vlen_le pk.length
  conv => cbv
  obtain ⟨rs0, hbase, hdrop⟩ := hb2.base2 hb4
  refine ⟨m2, y2, _, rs0, _, m4, y4, hbase _ _ _ _, hdrop, hb4.src hs4 (by rw [hy4, ints_len]; omega) (by rw [hy4]; exact ints_one _ _), by omega, by omega, ?_⟩
  clear hbase hdrop rs0
  intro a5 n5 c5 z5 hn5 hz5 hs5
  conv => cbv
  refine fun _ => Base1.isRow (rest := []) Base1.row ⟨?_, ?_⟩
  · simp only [outB, List.length_append, le_len, vb, vi_len]
    omega
  · rw [hz5, hy2, hy4, ints_app]
    rfl

theorem flat_succ {α : Type} (f : α → List Int) {l : List α} {i : Nat} {x : α} (h : l[i]? = some x) : ((l.take (i + 1)).map f).flatten = ((l.take i).map f).flatten ++ f x := by
  rw [List.take_add_one, h]
  simp

theorem flat_len {α : Type} (f : α → List Int) (g : α → Nat) : ∀ (l : List α) (i : Nat), (∀ x ∈ l, (f x).length ≤ g x) → (((l.take i).map f).flatten).length ≤ (l.map g).sum
  | [], i, _ => by simp
  | x :: l, 0, _ => by simp
  | x :: l, i + 1, h => by
    have h1 := flat_len f g l i (fun y hy => h y (by simp [hy]))
    have h2 := h x (by simp)
    simp only [List.take_succ_cons, List.map_cons, List.flatten_cons, List.length_append, List.sum_cons]
    omega

theorem vb_len (xs : List Int) : (vb xs).length = vlen xs.length + xs.length := by simp [vb, vi_len]
theorem vb_le (xs : List Int) : (vb xs).length ≤ wsz xs := by
  have := vlen_le xs.length
  rw [vb_len, wsz]
  omega

def witB (w : List (List Int)) : List Int := vi w.length ++ (w.map vb).flatten

structure Lr where
  i : Int
  a : Option Addr
  n : Nat
  c : Nat
  zs : List Value
  rs : List Row

set_option maxRecDepth 100000 in
theorem witnessBytes {P : Program} (hP : P = Try.prog) (R : RO) (a : Option Addr) (n c : Nat) (w : List (List Int)) (h : LAt R 1 BAt a n c w) (hn : (w.map wsz).sum ≤ 100000000) : RowP P 69 [.slice a n c] R 5 1 (Bs .u8 (witB w)) := by
  subst hP
  have hl := h.len
  have hs4 := len_sum wsz w (fun x _ => by unfold wsz; omega)
  refine rowP_vc (fz := []) Try.func69 rfl (by decide) rfl ok69 ?_
  intro P bin cmp cnv neg com bnot beq ofN toN at_ sub_ scmp cat sget ssz ssub elem fld_ hP hA
  conv => cbv
  have o := ofN_ hA n
  have e1 : cnv .u64 (ofN n) = ((w.length : Nat) : Int) := by rw [o, cnv_u64 hA (by omega)]; omega
  refine (varInt hP R _ w.length e1 (by omega)).call rfl ?_
  intro b2 m2 d2 y2 rs2 hb2 hs2 ⟨hm2, hy2⟩
  have hk2 := hm2
  rw [vi_len] at hk2
  have hv2 := vlen_le w.length
  conv => cbv
  refine ⟨Lr, fun x => ⟨[(4, .v (.int .i64 x.i)), (0, .v (.slice a n c)), (3, .v (.slice x.a x.n x.c))], R, [], 0, x.rs⟩,
    fun k x => ∃ j : Nat, x.i = j ∧ j ≤ n ∧ k = n - j ∧ Base1 x.rs [] x.a x.n x.c 5 1 x.zs ∧ Bs .u8 (vi w.length ++ ((w.take j).map vb).flatten) x.n x.zs,
    ⟨n, ⟨0, b2, m2, d2, y2, rs2⟩, ⟨⟨rfl, rfl, rfl, trivial⟩, rfl, trivial, rfl, .refl _⟩, 0, rfl, by omega, rfl, hb2, by simpa using hm2, by simpa using hy2⟩, ?_⟩
  rintro k ⟨i, a1, n1, c1, z1, rs1⟩ ⟨j, hi, hj, hk, hb1, hn1, hz1⟩
  simp only at hi hb1 hn1 hz1
  conv => cbv
  by_cases hlt : j < n
  case neg =>
    refine br_f (by rw [o, cmp_lss hA]; simp; omega) ?_
    conv => cbv
    rw [List.take_of_length_le (by omega)] at hn1 hz1
    exact fun _ => hb1.isRow ⟨hn1, hz1⟩
  refine br_t (by rw [o, cmp_lss hA]; simp; omega) ?_
  conv => cbv
  obtain ⟨q, hxq⟩ : ∃ q, w[j]? = some q := ⟨_, List.getElem?_eq_getElem (by omega)⟩
  have hq := mem_sum wsz (List.mem_of_getElem? hxq)
  have h9 : wsz q = 9 + q.length := rfl
  have hfl := flat_len vb wsz w j (fun x _ => vb_le x)
  refine ix_at hA h j hi (by omega) ?_
  refine ld_elem hA h j hi hxq ?_
  rintro _ - ⟨b, m, d, rfl, f1, f2, f3⟩
  refine ⟨_, rfl, ?_⟩
  conv => cbv
  have hm := f1.len
  refine (varBytes hP R b m d q f1 (by omega)).call rfl ?_
  intro b4 m4 d4 y4 rs4 hb4 hs4 ⟨hm4, hy4⟩
  have hk4 := hm4
  rw [vb_len] at hk4
  have hv4 := vlen_le q.length
  have hk1 := hn1
  rw [List.length_append, vi_len] at hk1
  conv => cbv
  obtain ⟨rs0, hbase, hdrop⟩ := hb1.base2 hb4
  refine ⟨n1, z1, _, rs0, _, m4, y4, hbase _ _ _ _, hdrop, hb4.src hs4 (by rw [hy4, ints_len]; omega) (by rw [hy4]; exact ints_one _ _), by omega, by omega, ?_⟩
  clear hbase hdrop rs0
  intro a5 n5 c5 z5 hn5 hz5 hs5
  conv => cbv
  refine ⟨n - (j + 1), ⟨i + 1, a5, n5, c5, z5, _⟩, by omega, ⟨⟨?_, rfl, rfl, trivial⟩, rfl, trivial, rfl, .refl _⟩, j + 1, by show i + 1 = ((j + 1 : Nat) : Int); omega, by omega, rfl, Base1.row, ?_, ?_⟩
  · rw [add_i64 hA (by omega)]
    rfl
  · show n5 = _
    rw [flat_succ vb hxq, ← List.append_assoc, List.length_append, ← hn1, ← hm4, hn5]
  · show z5 = _
    rw [hz5, hz1, hy4, ints_app, flat_succ vb hxq, List.append_assoc]

def hw (g : GTx) : Bool := g.ins.any fun q => decide (0 < q.wit.length)

set_option maxRecDepth 100000 in
theorem hasWitness {P : Program} (hP : P = Try.prog) (R : RO) (cs : List Value) (g : GTx) (h : TxAt R cs g) : RetP P 29 [.agg cs.toArray] R fun _ v => ∃ r, v = .bool r ∧ r = hw g := by
  subst hP
  obtain ⟨a, n, c, a2, n2, cc, rfl, h1, h2, h3, h4⟩ := h
  obtain ⟨ver, ins, outs, lock⟩ := g
  simp only at h1 h2 h3 h4 ⊢
  have hl3 : n = ins.length := h3.len
  have hm3 := h3.mx
  unfold maxLen at hm3
  refine retP_vc (fz := []) Try.func29 rfl (by decide) rfl ok29 ?_
  intro P bin cmp cnv neg com bnot beq ofN toN at_ sub_ scmp cat sget ssz ssub elem fld_ hP hA
  conv => cbv
  have o := ofN_ hA n
  refine ⟨Int, fun x => ⟨[(3, .v (.int .i64 x)), (1, .p 0 0)], R, [(0, ⟨32, [.v (.int .i32 ver), .v (.slice a n c), .v (.slice a2 n2 cc), .v (.int .u32 lock)]⟩)], 1, []⟩,
    fun k x => ∃ i : Nat, x = i ∧ i ≤ n ∧ k = n - i ∧ (ins.take i).any (fun q => decide (0 < q.wit.length)) = false, ⟨n, 0, ⟨⟨rfl, rfl, trivial⟩, rfl, ⟨rfl, trivial⟩, rfl, .refl _⟩, 0, rfl, by omega, rfl, rfl⟩, ?_⟩
  rintro k x ⟨i, hx, hi, hk, ht⟩
  conv => cbv
  by_cases hlt : i < n
  case neg =>
    refine br_f (by rw [o, cmp_lss hA]; simp; omega) ?_
    conv => cbv
    intro ρ R'' _ _ _
    rw [List.take_of_length_le (by omega)] at ht
    exact ⟨_, rfl, ht.symm⟩
  refine br_t (by rw [o, cmp_lss hA]; simp; omega) ?_
  conv => cbv
  refine ix_at hA h3 i hx hlt ?_
  obtain ⟨q, hxq⟩ : ∃ q, ins[i]? = some q := ⟨_, List.getElem?_eq_getElem (by omega)⟩
  refine ld_fld hA h3 i hx hxq 34 ?_
  rintro _ - ⟨b, m, d, b2, m2, d2, rfl, g0, g1, g2, g3, g4, g5, g6⟩
  refine ⟨.slice b2 m2 d2, by rw [List.getElem?_append_right (by rw [ints_len, g0]; omega), ints_len, g0]; rfl, ?_⟩
  conv => cbv
  have o2 := ofN_ hA m2
  have hl6 := g6.len
  by_cases hp : 0 < m2
  · refine br_t (by rw [o2, cmp_gtr hA]; simp; omega) ?_
    conv => cbv
    intro ρ R'' _ _ _
    refine ⟨_, rfl, ?_⟩
    show true = ins.any _
    rw [eq_comm, List.any_eq_true]
    exact ⟨q, List.mem_of_getElem? hxq, by simp; omega⟩
  · refine br_f (by rw [o2, cmp_gtr hA]; simp; omega) ?_
    conv => cbv
    refine ⟨n - (i + 1), x + 1, by omega, ⟨⟨?_, rfl, trivial⟩, rfl, ⟨rfl, trivial⟩, rfl, .refl _⟩, i + 1, by show x + 1 = ((i + 1 : Nat) : Int); omega, by omega, rfl, ?_⟩
    · rw [add_i64 hA (by omega)]
      rfl
    · rw [List.take_add_one, hxq, List.any_append, ht]
      show (false || (decide (0 < q.wit.length) || false)) = false
      rw [decide_eq_false (by omega)]
      rfl
end Go.Proofs.Ytclkimgpdnldnaa.Tx
