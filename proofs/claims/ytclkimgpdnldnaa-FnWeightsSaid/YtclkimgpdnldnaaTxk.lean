/- Blocks in read-only memory; their sizes are looked at. -/
import Derived.Test.YtclkimgpdnldnaaTxw3
import Derived.Test.YtclkimgpdnldnaaTytk
set_option linter.unusedSimpArgs false
set_option linter.unusedVariables false
namespace Go.Proofs.Ytclkimgpdnldnaa.Tx
open Go Go.Se Go.Proofs Go.Proofs.Ytclkimgpdnldnaa.Tytk

structure GHdr where
  ver : Int
  prev : List Int
  root : List Int
  time : Int
  bits : Int
  nonce : Int

structure GBlk where
  hdr : GHdr
  txs : List GTx

structure HWf (h : GHdr) : Prop where
  ver : (Lit.int .i32 h.ver).wf = true
  lp : h.prev.length = 32
  wp : ∀ x ∈ h.prev, (Lit.int .u8 x).wf = true
  lr : h.root.length = 32
  wr : ∀ x ∈ h.root, (Lit.int .u8 x).wf = true
  time : (Lit.int .u32 h.time).wf = true
  bits : (Lit.int .u32 h.bits).wf = true
  nonce : (Lit.int .u32 h.nonce).wf = true

/-- A header's cells. -/
def hcells (h : GHdr) : List Value := [.int .i32 h.ver] ++ ints .u8 h.prev ++ ints .u8 h.root ++ [.int .u32 h.time, .int .u32 h.bits, .int .u32 h.nonce]

/-- A block as plain data. -/
def KAt (R : RO) (cs : List Value) (k : GBlk) : Prop := ∃ a n c, cs = hcells k.hdr ++ [.slice a n c] ∧ HWf k.hdr ∧ LAt R 4 TxAt a n c k.txs

theorem KAt.le {R R' : RO} (hl : R.le R') (cs : List Value) (x : GBlk) (h : KAt R cs x) : KAt R' cs x :=
  let ⟨a, n, c, h1, h2, h3⟩ := h
  ⟨a, n, c, h1, h2, h3.le hl (TxAt.le hl)⟩

section
variable {H : Type} {enc : TypeId × Value → H} {w : World} {base : Nat} {sp : Nat → Bool} {held : Bool} {fuel : Nat} {cs : List Value} {x : DataW H × List MemPlace}

theorem hdr_of (h : DataW.trod enc Try.prog w base sp held fuel 62 cs = some x) : ∃ g, cs = hcells g ∧ HWf g := by
  obtain ⟨h1, m, h2⟩ := struct_of ty62 rfl h
  obtain ⟨z1, e1⟩ := h2 (0, 21) (by simp)
  obtain ⟨z2, e2⟩ := h2 (1, 60) (by simp)
  obtain ⟨z3, e3⟩ := h2 (33, 60) (by simp)
  obtain ⟨z4, e4⟩ := h2 (65, 30) (by simp)
  obtain ⟨z5, e5⟩ := h2 (66, 30) (by simp)
  obtain ⟨z6, e6⟩ := h2 (67, 30) (by simp)
  rw [cellsOf_of ty21] at e1
  rw [cellsOf_of ty60] at e2 e3
  rw [cellsOf_of ty30] at e4 e5 e6
  obtain ⟨ver, c1, c2⟩ := int_of Try.underlying21 e1
  obtain ⟨prev, d1, d2, d3⟩ := hash_of e2
  obtain ⟨root, f1, f2, f3⟩ := hash_of e3
  obtain ⟨time, g1, g2⟩ := int_of Try.underlying30 e4
  obtain ⟨bits, i1, i2⟩ := int_of Try.underlying30 e5
  obtain ⟨nonce, j1, j2⟩ := int_of Try.underlying30 e6
  refine ⟨⟨ver, prev, root, time, bits, nonce⟩, ?_, c2, d2, d3, f2, f3, g2, i2, j2⟩
  have h3 : cs = cs.drop 0 := by simp
  have h1 : cs.length = 68 := h1
  rw [h3, cut cs 0 1, cut cs 1 32, cut cs 33 32, cut cs 65 1, cut cs 66 1, cut cs 67 1, List.drop_of_length_le (by omega : cs.length ≤ 67 + 1), List.append_nil]
  have k1 : (cs.drop 0).take 1 = _ := c1
  have k2 : (cs.drop 1).take 32 = _ := d1
  have k3 : (cs.drop 33).take 32 = _ := f1
  have k4 : (cs.drop 65).take 1 = _ := g1
  have k5 : (cs.drop 66).take 1 = _ := i1
  have k6 : (cs.drop 67).take 1 = _ := j1
  rw [k1, k2, k3, k4, k5, k6]
  simp [hcells]

theorem blk_of (h : DataW.trod enc Try.prog w base sp held fuel 65 cs = some x) : ∃ g, KAt (fun b => w.heap[b]?) cs g := by
  obtain ⟨h1, m, h2⟩ := struct_of ty65 rfl h
  obtain ⟨z1, e1⟩ := h2 (0, 62) (by simp)
  obtain ⟨z2, e2⟩ := h2 (68, 63) (by simp)
  rw [cellsOf_of ty62] at e1
  rw [cellsOf_of ty63] at e2
  obtain ⟨hdr, c1, c2⟩ := hdr_of e1
  obtain ⟨a, n, c, txs, c3, c4⟩ := LAt.of_trod Try.underlying63 e2 (p := TxAt) (fun _ _ _ hx _ => tx_of hx)
  rw [cellsOf_of Tytx.ty32] at c4
  refine ⟨⟨hdr, txs⟩, a, n, c, ?_, c2, c4⟩
  have h3 : cs = cs.drop 0 := by simp
  have h1 : cs.length = 69 := h1
  rw [h3, cut cs 0 68, cut cs 68 1, List.drop_of_length_le (by omega : cs.length ≤ 68 + 1), List.append_nil]
  have k1 : (cs.drop 0).take 68 = _ := c1
  have k2 : (cs.drop 68).take 1 = _ := c3
  rw [k1, k2]
end

theorem hcells_len {g : GHdr} (h : HWf g) : (hcells g).length = 68 := by simp [hcells, ints_len, h.lp, h.lr]

theorem l68 {α : Type} {xs : List α} (h : xs.length = 68) : ∃ v0 v1 v2 v3 v4 v5 v6 v7 v8 v9 v10 v11 v12 v13 v14 v15 v16 v17 v18 v19 v20 v21 v22 v23 v24 v25 v26 v27 v28 v29 v30 v31 v32 v33 v34 v35 v36 v37 v38 v39 v40 v41 v42 v43 v44 v45 v46 v47 v48 v49 v50 v51 v52 v53 v54 v55 v56 v57 v58 v59 v60 v61 v62 v63 v64 v65 v66 v67, xs = [v0, v1, v2, v3, v4, v5, v6, v7, v8, v9, v10, v11, v12, v13, v14, v15, v16, v17, v18, v19, v20, v21, v22, v23, v24, v25, v26, v27, v28, v29, v30, v31, v32, v33, v34, v35, v36, v37, v38, v39, v40, v41, v42, v43, v44, v45, v46, v47, v48, v49, v50, v51, v52, v53, v54, v55, v56, v57, v58, v59, v60, v61, v62, v63, v64, v65, v66, v67] := by
  obtain ⟨v0, z0, rfl, k0⟩ := uncons h
  obtain ⟨v1, z1, rfl, k1⟩ := uncons k0
  obtain ⟨v2, z2, rfl, k2⟩ := uncons k1
  obtain ⟨v3, z3, rfl, k3⟩ := uncons k2
  obtain ⟨v4, z4, rfl, k4⟩ := uncons k3
  obtain ⟨v5, z5, rfl, k5⟩ := uncons k4
  obtain ⟨v6, z6, rfl, k6⟩ := uncons k5
  obtain ⟨v7, z7, rfl, k7⟩ := uncons k6
  obtain ⟨v8, z8, rfl, k8⟩ := uncons k7
  obtain ⟨v9, z9, rfl, k9⟩ := uncons k8
  obtain ⟨v10, z10, rfl, k10⟩ := uncons k9
  obtain ⟨v11, z11, rfl, k11⟩ := uncons k10
  obtain ⟨v12, z12, rfl, k12⟩ := uncons k11
  obtain ⟨v13, z13, rfl, k13⟩ := uncons k12
  obtain ⟨v14, z14, rfl, k14⟩ := uncons k13
  obtain ⟨v15, z15, rfl, k15⟩ := uncons k14
  obtain ⟨v16, z16, rfl, k16⟩ := uncons k15
  obtain ⟨v17, z17, rfl, k17⟩ := uncons k16
  obtain ⟨v18, z18, rfl, k18⟩ := uncons k17
  obtain ⟨v19, z19, rfl, k19⟩ := uncons k18
  obtain ⟨v20, z20, rfl, k20⟩ := uncons k19
  obtain ⟨v21, z21, rfl, k21⟩ := uncons k20
  obtain ⟨v22, z22, rfl, k22⟩ := uncons k21
  obtain ⟨v23, z23, rfl, k23⟩ := uncons k22
  obtain ⟨v24, z24, rfl, k24⟩ := uncons k23
  obtain ⟨v25, z25, rfl, k25⟩ := uncons k24
  obtain ⟨v26, z26, rfl, k26⟩ := uncons k25
  obtain ⟨v27, z27, rfl, k27⟩ := uncons k26
  obtain ⟨v28, z28, rfl, k28⟩ := uncons k27
  obtain ⟨v29, z29, rfl, k29⟩ := uncons k28
  obtain ⟨v30, z30, rfl, k30⟩ := uncons k29
  obtain ⟨v31, z31, rfl, k31⟩ := uncons k30
  obtain ⟨v32, z32, rfl, k32⟩ := uncons k31
  obtain ⟨v33, z33, rfl, k33⟩ := uncons k32
  obtain ⟨v34, z34, rfl, k34⟩ := uncons k33
  obtain ⟨v35, z35, rfl, k35⟩ := uncons k34
  obtain ⟨v36, z36, rfl, k36⟩ := uncons k35
  obtain ⟨v37, z37, rfl, k37⟩ := uncons k36
  obtain ⟨v38, z38, rfl, k38⟩ := uncons k37
  obtain ⟨v39, z39, rfl, k39⟩ := uncons k38
  obtain ⟨v40, z40, rfl, k40⟩ := uncons k39
  obtain ⟨v41, z41, rfl, k41⟩ := uncons k40
  obtain ⟨v42, z42, rfl, k42⟩ := uncons k41
  obtain ⟨v43, z43, rfl, k43⟩ := uncons k42
  obtain ⟨v44, z44, rfl, k44⟩ := uncons k43
  obtain ⟨v45, z45, rfl, k45⟩ := uncons k44
  obtain ⟨v46, z46, rfl, k46⟩ := uncons k45
  obtain ⟨v47, z47, rfl, k47⟩ := uncons k46
  obtain ⟨v48, z48, rfl, k48⟩ := uncons k47
  obtain ⟨v49, z49, rfl, k49⟩ := uncons k48
  obtain ⟨v50, z50, rfl, k50⟩ := uncons k49
  obtain ⟨v51, z51, rfl, k51⟩ := uncons k50
  obtain ⟨v52, z52, rfl, k52⟩ := uncons k51
  obtain ⟨v53, z53, rfl, k53⟩ := uncons k52
  obtain ⟨v54, z54, rfl, k54⟩ := uncons k53
  obtain ⟨v55, z55, rfl, k55⟩ := uncons k54
  obtain ⟨v56, z56, rfl, k56⟩ := uncons k55
  obtain ⟨v57, z57, rfl, k57⟩ := uncons k56
  obtain ⟨v58, z58, rfl, k58⟩ := uncons k57
  obtain ⟨v59, z59, rfl, k59⟩ := uncons k58
  obtain ⟨v60, z60, rfl, k60⟩ := uncons k59
  obtain ⟨v61, z61, rfl, k61⟩ := uncons k60
  obtain ⟨v62, z62, rfl, k62⟩ := uncons k61
  obtain ⟨v63, z63, rfl, k63⟩ := uncons k62
  obtain ⟨v64, z64, rfl, k64⟩ := uncons k63
  obtain ⟨v65, z65, rfl, k65⟩ := uncons k64
  obtain ⟨v66, z66, rfl, k66⟩ := uncons k65
  obtain ⟨v67, z67, rfl, k67⟩ := uncons k66
  obtain rfl := List.eq_nil_of_length_eq_zero k67
  exact ⟨_, _, _, _, _, _, _, _, _, _, _, _, _, _, _, _, _, _, _, _, _, _, _, _, _, _, _, _, _, _, _, _, _, _, _, _, _, _, _, _, _, _, _, _, _, _, _, _, _, _, _, _, _, _, _, _, _, _, _, _, _, _, _, _, _, _, _, _, rfl⟩


set_option maxRecDepth 100000 in
theorem fits10 {P : Program} (hP : P = Try.prog) (R : RO) (cs : List Value) (g : GTx) (h : TxAt R cs g) : RetP P 106 [.agg cs.toArray] R fun _ v => ∃ b, v = .bool b := by
  subst hP
  obtain ⟨a, n, c, a2, n2, c2, rfl, h1, h2, h3, h4⟩ := h
  refine retP_vc (fz := []) Try.func106 rfl (by decide) rfl ok106 ?_
  intro P bin cmp cnv neg com bnot beq ofN toN at_ sub_ scmp cat sget ssz ssub elem fld_ hP hA
  conv => cbv
  refine (fits3 hP R a n c _ h3).callQ rfl ?_
  rintro _ ⟨b, rfl⟩
  conv => cbv
  refine br_of (fun _ => ?_) (fun _ => ?_)
  · conv => cbv
    intro ρ R'' _ _ _
    exact ⟨_, rfl⟩
  conv => cbv
  refine (fits6 hP R a2 n2 c2 _ h4).callQ rfl ?_
  rintro _ ⟨b, rfl⟩
  conv => cbv
  refine br_of (fun _ => ?_) (fun _ => ?_)
  · conv => cbv
    intro ρ R'' _ _ _
    exact ⟨_, rfl⟩
  · conv => cbv
    intro ρ R'' _ _ _
    exact ⟨_, rfl⟩

set_option maxRecDepth 100000 in
theorem fits9 {P : Program} (hP : P = Try.prog) (R : RO) (a : Option Addr) (n c : Nat) (xs : List GTx) (h : LAt R 4 TxAt a n c xs) : RetP P 76 [.slice a n c] R fun _ v => ∃ b, v = .bool b := by
  subst hP
  refine retP_vc (fz := []) Try.func76 rfl (by decide) rfl ok76 ?_
  intro P bin cmp cnv neg com bnot beq ofN toN at_ sub_ scmp cat sget ssz ssub elem fld_ hP hA
  conv => cbv
  refine br_of (fun _ => ?_) (fun _ => ?_)
  · conv => cbv
    intro ρ R'' _ _ _
    exact ⟨_, rfl⟩
  conv => cbv
  refine ⟨Int, fun x => ⟨[(10, .v (.int .i64 x)), (9, .v (.int .i64 (ofN n))), (8, .v (.slice a n c))], R, [], 0, []⟩,
    fun k x => ∃ i : Nat, x = i ∧ i ≤ n ∧ k = n - i, ⟨n, 0, ⟨⟨rfl, rfl, rfl, trivial⟩, rfl, trivial, rfl, .refl _⟩, 0, rfl, by omega, rfl⟩, ?_⟩
  rintro k x ⟨i, hx, hi, hk⟩
  conv => cbv
  have o := ofN_ hA n
  have hmx := h.mx
  have hlen := h.len
  unfold maxLen at hmx
  by_cases hlt : i < n
  · refine br_t (by rw [o, cmp_lss hA]; simp; omega) ?_
    conv => cbv
    refine ix_at hA h i hx hlt ?_
    obtain ⟨g, hxi⟩ : ∃ g, xs[i]? = some g := ⟨_, List.getElem?_eq_getElem (by omega)⟩
    refine ld_whole hA h i hx hxi ?_
    intro cs hcs h1
    have hin := h1
    obtain ⟨a1, n1, c1, a2, n2, c2, rfl, -⟩ := h1
    conv => cbv
    refine (fits10 hP R _ _ hin).callQ rfl ?_
    rintro _ ⟨b, rfl⟩
    conv => cbv
    refine br_of (fun _ => ?_) (fun _ => ?_)
    · conv => cbv
      intro ρ R'' _ _ _
      exact ⟨_, rfl⟩
    · conv => cbv
      refine ⟨n - (i + 1), x + 1, by omega, ⟨⟨?_, rfl, rfl, trivial⟩, rfl, trivial, rfl, .refl _⟩, i + 1, by show x + 1 = ((i + 1 : Nat) : Int); omega, by omega, rfl⟩
      rw [add_i64 hA (by omega)]
      rfl
  · refine br_f (by rw [o, cmp_lss hA]; simp; omega) ?_
    conv => cbv
    intro ρ R'' _ _ _
    exact ⟨_, rfl⟩

theorem capn_add (m t : Nat) : capn (m + capn t) = capn (m + t) := by
  unfold capn
  by_cases h : t ≤ 100000
  · simp [h]
  · simp [h]
    omega

def ksz (k : GBlk) : Nat := 90 + (k.txs.map tsz).sum
end Go.Proofs.Ytclkimgpdnldnaa.Tx
