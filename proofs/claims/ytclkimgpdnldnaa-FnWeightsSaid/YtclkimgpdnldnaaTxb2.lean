/- A transaction's bytes, as the reference writes them: inputs, outputs, witnesses. -/
import Derived.Test.YtclkimgpdnldnaaTxb
set_option linter.unusedSimpArgs false
set_option linter.unusedVariables false
namespace Go.Proofs.Ytclkimgpdnldnaa.Tx
open Go Go.Se Go.Proofs Go.Proofs.Ytclkimgpdnldnaa.Tytb

/-- One slice is appended to another, which is given up. -/

def inB (g : GIn) : List Int := g.hash ++ le 4 g.idx.toNat ++ vb g.script ++ le 4 g.seq.toNat
def outB (g : GOut) : List Int := le 8 (g.value % 18446744073709551616).toNat ++ vb g.pk

theorem u32_u64 {x : Int} (h : (Lit.int .u32 x).wf = true) : x = (x.toNat : Int) ∧ x.toNat < 18446744073709551616 := by
  simp [Lit.wf, IntKind.min, IntKind.max, IntKind.bits, IntKind.signed] at h
  omega

set_option maxRecDepth 100000 in
set_option maxHeartbeats 1000000 in
theorem inBytes {P : Program} (hP : P = Try.prog) (R : RO) (cs : List Value) (g : GIn) (h : InAt R cs g) (hn : g.script.length ≤ 100000000) : RowP P 67 [.agg cs.toArray] R 5 1 (Bs .u8 (inB g)) := by
  subst hP
  obtain ⟨a, n, c, a2, n2, c2, rfl, hh, h1, h2, h3, h4, h5, h6⟩ := h
  obtain ⟨hash, idx, script, wit, sq⟩ := g
  simp only at hh h1 h2 h3 h4 h6 hn ⊢
  have hl := h4.len
  clear h1
  obtain ⟨e0, e1, e2, e3, e4, e5, e6, e7, e8, e9, e10, e11, e12, e13, e14, e15, e16, e17, e18, e19, e20, e21, e22, e23, e24, e25, e26, e27, e28, e29, e30, e31, rfl⟩ := l32 hh
  obtain ⟨i1, i2⟩ := u32_u64 h2
  obtain ⟨q1, q2⟩ := u32_u64 h3
  refine rowP_vc (fz := []) Try.func67 rfl (by decide) rfl ok67 ?_
  intro P bin cmp cnv neg com bnot beq ofN toN at_ sub_ scmp cat sget ssz ssub elem fld_ hP hA
  conv => cbv
  refine ⟨0, [], _, _, _, 32, ints .u8 [e0, e1, e2, e3, e4, e5, e6, e7, e8, e9, e10, e11, e12, e13, e14, e15, e16, e17, e18, e19, e20, e21, e22, e23, e24, e25, e26, e27, e28, e29, e30, e31], .own 1 0 _ [] rfl rfl rfl rfl (by decide), .refl _, .own 0 0 32 32 _ _ rfl rfl rfl (ints_one _ _), by omega, by omega, ?_⟩
  intro a1 n1 c1 z1 hn1 hz1 hs1
  have hb1 := Base1.row (rest := []) (a := a1) (n := n1) (c := c1) (e := 5) (sz := 1) (zs := z1)
  conv => cbv
  have e1 : cnv .u64 idx = ((idx.toNat : Nat) : Int) := by rw [cnv_u64 hA (by omega)]; exact i1
  refine (little hP R _ 4 idx.toNat 4 e1 rfl i2 (by decide)).call rfl ?_
  intro b2 m2 d2 y2 rs2 hb2 hs2 ⟨hm2, hy2⟩
  have hk2 := hm2
  rw [le_len] at hk2
  conv => cbv
  obtain ⟨rs0, hbase, hdrop⟩ := hb1.base2 hb2
  refine ⟨n1, z1, _, rs0, _, m2, y2, hbase _ _ _ _, hdrop, hb2.src hs2 (by rw [hy2, ints_len]; omega) (by rw [hy2]; exact ints_one _ _), by omega, by omega, ?_⟩
  clear hbase hdrop rs0
  intro a3 n3 c3 z3 hn3 hz3 hs3
  conv => cbv
  have hb3 := Base1.row (rest := []) (a := a3) (n := n3) (c := c3) (e := 5) (sz := 1) (zs := z3)
  refine (varBytes hP R a n c script h4 (by omega)).call rfl ?_
  intro b4 m4 d4 y4 rs4 hb4 hs4 ⟨hm4, hy4⟩
  have hk4 := hm4
  rw [vb, List.length_append, vi_len] at hk4
  have hv4 := vlen_le script.length
  conv => cbv
  obtain ⟨rs0, hbase, hdrop⟩ := hb3.base2 hb4
  refine ⟨n3, z3, _, rs0, _, m4, y4, hbase _ _ _ _, hdrop, hb4.src hs4 (by rw [hy4, ints_len]; omega) (by rw [hy4]; exact ints_one _ _), by omega, by omega, ?_⟩
  clear hbase hdrop rs0
  intro a5 n5 c5 z5 hn5 hz5 hs5
  conv => cbv
  have hb5 := Base1.row (rest := []) (a := a5) (n := n5) (c := c5) (e := 5) (sz := 1) (zs := z5)
  have e2 : cnv .u64 sq = ((sq.toNat : Nat) : Int) := by rw [cnv_u64 hA (by omega)]; exact q1
  refine (little hP R _ 4 sq.toNat 4 e2 rfl q2 (by decide)).call rfl ?_
  intro b6 m6 d6 y6 rs6 hb6 hs6 ⟨hm6, hy6⟩
  have hk6 := hm6
  rw [le_len] at hk6
  conv => cbv
  obtain ⟨rs0, hbase, hdrop⟩ := hb5.base2 hb6
  refine ⟨n5, z5, _, rs0, _, m6, y6, hbase _ _ _ _, hdrop, hb6.src hs6 (by rw [hy6, ints_len]; omega) (by rw [hy6]; exact ints_one _ _), by omega, by omega, ?_⟩
  clear hbase hdrop rs0
  intro a7 n7 c7 z7 hn7 hz7 hs7
  conv => cbv
  refine fun _ => Base1.isRow (rest := []) Base1.row ⟨?_, ?_⟩
  · simp only [inB, List.length_append, le_len, vb, vi_len]
    simp
    omega
  · rw [hz7, hz5, hz3, hz1, hy2, hy4, hy6, List.nil_append, ints_app, ints_app, ints_app]
    rfl
end Go.Proofs.Ytclkimgpdnldnaa.Tx
