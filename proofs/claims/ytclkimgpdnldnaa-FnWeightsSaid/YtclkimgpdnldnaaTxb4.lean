/- A transaction's bytes, as the reference writes them. -/
import Derived.Test.YtclkimgpdnldnaaTxb3
set_option linter.unusedSimpArgs false
set_option linter.unusedVariables false
namespace Go.Proofs.Ytclkimgpdnldnaa.Tx
open Go Go.Se Go.Proofs Go.Proofs.Ytclkimgpdnldnaa.Tytb


def verU (g : GTx) : Nat := (g.ver % 4294967296).toNat

/-- The bytes; W: with witnesses. -/
def txB (g : GTx) (W : Bool) : List Int :=
  le 4 (verU g) ++ (if W then [0, 1] else []) ++ vi g.ins.length ++ (g.ins.map inB).flatten ++ vi g.outs.length ++ (g.outs.map outB).flatten ++ (if W then (g.ins.map fun q => witB q.wit).flatten else []) ++ le 4 g.lock.toNat

theorem inB_le (g : GIn) (h : g.hash.length = 32) : (inB g).length ≤ isz g := by
  have := vlen_le g.script.length
  simp only [inB, List.length_append, h, le_len, vb_len, isz]
  omega
theorem outB_le (g : GOut) : (outB g).length ≤ osz g := by
  have := vlen_le g.pk.length
  simp only [outB, List.length_append, le_len, vb_len, osz]
  omega
theorem witB_le (g : GIn) : (witB g.wit).length ≤ isz g := by
  have h1 := vlen_le g.wit.length
  have h2 := flat_len vb wsz g.wit g.wit.length (fun x _ => vb_le x)
  rw [List.take_of_length_le (by omega)] at h2
  simp only [witB, List.length_append, vi_len, isz]
  omega


theorem all_len {α : Type} (f : α → List Int) (g : α → Nat) (l : List α) (h : ∀ x ∈ l, (f x).length ≤ g x) : ((l.map f).flatten).length ≤ (l.map g).sum := by
  have := flat_len f g l l.length h
  rwa [List.take_of_length_le (Nat.le_refl _)] at this







set_option maxRecDepth 100000 in
set_option maxHeartbeats 2000000 in
theorem txBytes {P : Program} (hP : P = Try.prog) (R : RO) (cs : List Value) (g : GTx) (h : TxAt R cs g) (hz : tsz g ≤ 1000000) (w : Bool) : RowP P 27 [.agg cs.toArray, .bool w] R 5 1 (Bs .u8 (txB g (w && hw g))) := by
  subst hP
  have hh := h
  obtain ⟨a, n, c, a2, n2, cc, rfl, h1, h2, h3, h4⟩ := h
  obtain ⟨ver, ins, outs, lock⟩ := g
  simp only [tsz] at h1 h2 h3 h4 hz ⊢
  have hl3 : n = ins.length := h3.len
  have hl4 : n2 = outs.length := h4.len
  have hs3 := len_sum isz ins (fun x _ => by unfold isz; omega)
  have hs4 := len_sum osz outs (fun x _ => by unfold osz; omega)
  have h32 : ∀ x ∈ ins, (inB x).length ≤ isz x := fun x hx => by
    obtain ⟨i, hi, rfl⟩ := List.getElem_of_mem hx
    obtain ⟨ad, cs, -, -, -, b, m, d, b2, m2, d2, -, g0, -⟩ := h3.at_ i ins[i] (List.getElem?_eq_getElem hi)
    exact inB_le _ g0
  obtain ⟨k1, k2⟩ := u32_u64 h2
  refine rowP_vc (fz := []) Try.func27 rfl (by decide) rfl ok27 ?_
  intro P bin cmp cnv neg com bnot beq ofN toN at_ sub_ scmp cat sget ssz ssub elem fld_ hP hA
  conv => cbv
  have o := ofN_ hA n
  have o2 := ofN_ hA n2
  obtain ⟨W, hW⟩ : ∃ W, (w && hw ⟨ver, ins, outs, lock⟩) = W := ⟨_, rfl⟩
  have er : cnv .u64 (cnv .u32 ver) = (((ver % 4294967296).toNat : Nat) : Int) := by
    have e : cnv .u32 ver = ver % 4294967296 := by rw [cnv_ hA, wrap_u32]
    rw [e, cnv_u64 hA (by omega)]
    omega
  have little0 := little hP R _ 4 (ver % 4294967296).toNat 4 er rfl (by omega) (by decide)
  cases w with
  | false =>
    have hWv : W = false := by rw [← hW]; rfl
    conv => cbv
    refine little0.call rfl ?_
    intro a0 n0 c0 z0 rs0 hb0 hs0 ⟨hn0, hz0⟩
    conv => cbv
    obtain ⟨p0, hp0⟩ : ∃ p0, p0 = le 4 (ver % 4294967296).toNat := ⟨_, rfl⟩
    rw [← hp0] at hn0 hz0
    have hq0 : p0.length ≤ 6 := by rw [hp0, le_len]; decide
    have hvl := vlen_le ins.length
    have ev : cnv .u64 (ofN n) = ((ins.length : Nat) : Int) := by rw [ofN_ hA, cnv_u64 hA (by omega)]; omega
    refine (varInt hP R _ ins.length ev (by omega)).call rfl ?_
    intro b2 m2 d2 y2 rs2 hb2 hs2 ⟨hm2, hy2⟩
    have hk2 := hm2
    rw [vi_len] at hk2
    conv => cbv
    obtain ⟨rs0, hbase, hdrop⟩ := hb0.base2 hb2
    refine ⟨n0, z0, _, rs0, _, m2, y2, hbase _ _ _ _, hdrop, hb2.src hs2 (by rw [hy2, ints_len]; omega) (by rw [hy2]; exact ints_one _ _), by omega, by omega, ?_⟩
    clear hbase hdrop rs0
    intro a0 n0 c0 z0 hn3 hz3 hs3
    conv => cbv
    obtain ⟨p1, hp1⟩ : ∃ p1, p1 = p0 ++ vi ins.length := ⟨_, rfl⟩
    have hq1 : p1.length ≤ 15 := by rw [hp1, List.length_append, vi_len]; omega
    have hn3' : n0 = p1.length := by rw [hp1, List.length_append, ← hn0, ← hm2, hn3]
    have hz3' : z0 = ints .u8 p1 := by rw [hp1, hz3, hz0, hy2, ints_app]
    clear hb2 hs2 hm2 hy2 hk2 hs3 ev hn3 hz3 hb0 hn0 hz0 hvl
    have hn0 := hn3'
    have hz0 := hz3'
    clear hn3' hz3'
    generalize hrs0 : [(⟨a0, n0, c0, 5, 1, z0⟩ : Row)] = rs0
    have hb0 : Base1 rs0 [] a0 n0 c0 5 1 z0 := by rw [← hrs0]; exact Base1.row
    clear hrs0
    refine ⟨Lr, fun x => ⟨[(7, .v (.int .i64 x.i)), (6, .v (.slice x.a x.n x.c)), (5, .v (.bool false)), (2, .p 0 0)], R, [(0, ⟨32, [.v (.int .i32 ver), .v (.slice a n c), .v (.slice a2 n2 cc), .v (.int .u32 lock)]⟩)], 1, x.rs⟩,
      fun k x => ∃ j : Nat, x.i = j ∧ j ≤ n ∧ k = n - j ∧ Base1 x.rs [] x.a x.n x.c 5 1 x.zs ∧ Bs .u8 (p1 ++ ((ins.take j).map inB).flatten) x.n x.zs,
      ⟨n, ⟨0, a0, n0, c0, z0, rs0⟩, ⟨⟨rfl, rfl, rfl, rfl, trivial⟩, rfl, ⟨rfl, trivial⟩, rfl, .refl _⟩, 0, rfl, by omega, rfl, hb0, by simpa using hn0, by simpa using hz0⟩, ?_⟩
    clear hb0 hn0 hz0
    rintro k ⟨i, a0, n0, c0, z0, rs0⟩ ⟨j, hi, hj, hk, hb0, hn0, hz0⟩
    simp only at hi hb0 hn0 hz0
    conv => cbv
    by_cases hlt : j < n
    case pos =>
      refine br_t (by rw [o, cmp_lss hA]; simp; omega) ?_
      conv => cbv
      obtain ⟨q, hxq⟩ : ∃ q, ins[j]? = some q := ⟨_, List.getElem?_eq_getElem (by omega)⟩
      refine ix_at hA h3 j hi hlt ?_
      refine ld_whole hA h3 j hi hxq ?_
      intro cs hcs hin
      have hsc : isz q = 50 + q.script.length + (q.wit.map wsz).sum := rfl
      have hqs := mem_sum isz (List.mem_of_getElem? hxq)
      have hib := inBytes hP R cs q hin (by omega)
      generalize Value.agg cs.toArray = vq at hib ⊢
      conv => cbv
      have hfl := flat_len inB isz ins j h32
      refine hib.call rfl ?_
      intro b4 m4 d4 y4 rs4 hb4 hs4 ⟨hm4, hy4⟩
      have hk0 := hn0
      rw [List.length_append] at hk0
      have hk4 := h32 q (List.mem_of_getElem? hxq)
      rw [← hm4] at hk4
      have hq := mem_sum isz (List.mem_of_getElem? hxq)
      conv => cbv
      obtain ⟨rs0, hbase, hdrop⟩ := hb0.base2 hb4
      refine ⟨n0, z0, _, rs0, _, m4, y4, hbase _ _ _ _, hdrop, hb4.src hs4 (by rw [hy4, ints_len]; omega) (by rw [hy4]; exact ints_one _ _), by omega, by omega, ?_⟩
      clear hbase hdrop rs0
      intro a5 n5 c5 z5 hn5 hz5 hs5
      conv => cbv
      refine ⟨n - (j + 1), ⟨i + 1, a5, n5, c5, z5, _⟩, by omega, ⟨⟨?_, rfl, rfl, rfl, trivial⟩, rfl, ⟨rfl, trivial⟩, rfl, .refl _⟩, j + 1, by show i + 1 = ((j + 1 : Nat) : Int); omega, by omega, rfl, Base1.row, ?_, ?_⟩
      · rw [add_i64 hA (by omega)]
        rfl
      · show n5 = _
        rw [flat_succ inB hxq, ← List.append_assoc, List.length_append, ← hn0, ← hm4, hn5]
      · show z5 = _
        rw [hz5, hz0, hy4, ints_app, flat_succ inB hxq, List.append_assoc]
    refine br_f (by rw [o, cmp_lss hA]; simp; omega) ?_
    conv => cbv
    rw [List.take_of_length_le (by omega)] at hn0 hz0
    obtain ⟨p2, hp2⟩ : ∃ p2, p2 = p1 ++ (ins.map inB).flatten := ⟨_, rfl⟩
    rw [← hp2] at hn0 hz0
    have hq2 : p2.length ≤ 15 + (ins.map isz).sum := by have := all_len inB isz ins h32; rw [hp2, List.length_append]; omega
    clear hlt hi hj hk
    have hvl := vlen_le outs.length
    have ev : cnv .u64 (ofN n2) = ((outs.length : Nat) : Int) := by rw [ofN_ hA, cnv_u64 hA (by omega)]; omega
    refine (varInt hP R _ outs.length ev (by omega)).call rfl ?_
    intro b2 m2 d2 y2 rs2 hb2 hs2 ⟨hm2, hy2⟩
    have hk2 := hm2
    rw [vi_len] at hk2
    conv => cbv
    obtain ⟨rs0, hbase, hdrop⟩ := hb0.base2 hb2
    refine ⟨n0, z0, _, rs0, _, m2, y2, hbase _ _ _ _, hdrop, hb2.src hs2 (by rw [hy2, ints_len]; omega) (by rw [hy2]; exact ints_one _ _), by omega, by omega, ?_⟩
    clear hbase hdrop rs0
    intro a0 n0 c0 z0 hn3 hz3 hs3
    conv => cbv
    obtain ⟨p3, hp3⟩ : ∃ p3, p3 = p2 ++ vi outs.length := ⟨_, rfl⟩
    have hq3 : p3.length ≤ (24 + (ins.map isz).sum) := by rw [hp3, List.length_append, vi_len]; omega
    have hn3' : n0 = p3.length := by rw [hp3, List.length_append, ← hn0, ← hm2, hn3]
    have hz3' : z0 = ints .u8 p3 := by rw [hp3, hz3, hz0, hy2, ints_app]
    clear hb2 hs2 hm2 hy2 hk2 hs3 ev hn3 hz3 hb0 hn0 hz0 hvl
    have hn0 := hn3'
    have hz0 := hz3'
    clear hn3' hz3'
    generalize hrs0 : [(⟨a0, n0, c0, 5, 1, z0⟩ : Row)] = rs0
    have hb0 : Base1 rs0 [] a0 n0 c0 5 1 z0 := by rw [← hrs0]; exact Base1.row
    clear hrs0
    refine ⟨Lr, fun x => ⟨[(8, .v (.int .i64 x.i)), (6, .v (.slice x.a x.n x.c)), (5, .v (.bool false)), (2, .p 0 0)], R, [(0, ⟨32, [.v (.int .i32 ver), .v (.slice a n c), .v (.slice a2 n2 cc), .v (.int .u32 lock)]⟩)], 1, x.rs⟩,
      fun k x => ∃ j : Nat, x.i = j ∧ j ≤ n2 ∧ k = n2 - j ∧ Base1 x.rs [] x.a x.n x.c 5 1 x.zs ∧ Bs .u8 (p3 ++ ((outs.take j).map outB).flatten) x.n x.zs,
      ⟨n2, ⟨0, a0, n0, c0, z0, rs0⟩, ⟨⟨rfl, rfl, rfl, rfl, trivial⟩, rfl, ⟨rfl, trivial⟩, rfl, .refl _⟩, 0, rfl, by omega, rfl, hb0, by simpa using hn0, by simpa using hz0⟩, ?_⟩
    clear hb0 hn0 hz0
    rintro k ⟨i, a0, n0, c0, z0, rs0⟩ ⟨j, hi, hj, hk, hb0, hn0, hz0⟩
    simp only at hi hb0 hn0 hz0
    conv => cbv
    by_cases hlt : j < n2
    case pos =>
      refine br_t (by rw [o2, cmp_lss hA]; simp; omega) ?_
      conv => cbv
      obtain ⟨q, hxq⟩ : ∃ q, outs[j]? = some q := ⟨_, List.getElem?_eq_getElem (by omega)⟩
      refine ix_at hA h4 j hi hlt ?_
      refine ld_whole hA h4 j hi hxq ?_
      intro cs hcs hin
      have hsc : osz q = 17 + q.pk.length := rfl
      have hqs := mem_sum osz (List.mem_of_getElem? hxq)
      have hib := outBytes hP R cs q hin (by omega)
      generalize Value.agg cs.toArray = vq at hib ⊢
      conv => cbv
      have hfl := flat_len outB osz outs j (fun x _ => outB_le x)
      refine hib.call rfl ?_
      intro b4 m4 d4 y4 rs4 hb4 hs4 ⟨hm4, hy4⟩
      have hk0 := hn0
      rw [List.length_append] at hk0
      have hk4 := (fun x _ => outB_le x) q (List.mem_of_getElem? hxq)
      rw [← hm4] at hk4
      have hq := mem_sum osz (List.mem_of_getElem? hxq)
      conv => cbv
      obtain ⟨rs0, hbase, hdrop⟩ := hb0.base2 hb4
      refine ⟨n0, z0, _, rs0, _, m4, y4, hbase _ _ _ _, hdrop, hb4.src hs4 (by rw [hy4, ints_len]; omega) (by rw [hy4]; exact ints_one _ _), by omega, by omega, ?_⟩
      clear hbase hdrop rs0
      intro a5 n5 c5 z5 hn5 hz5 hs5
      conv => cbv
      refine ⟨n2 - (j + 1), ⟨i + 1, a5, n5, c5, z5, _⟩, by omega, ⟨⟨?_, rfl, rfl, rfl, trivial⟩, rfl, ⟨rfl, trivial⟩, rfl, .refl _⟩, j + 1, by show i + 1 = ((j + 1 : Nat) : Int); omega, by omega, rfl, Base1.row, ?_, ?_⟩
      · rw [add_i64 hA (by omega)]
        rfl
      · show n5 = _
        rw [flat_succ outB hxq, ← List.append_assoc, List.length_append, ← hn0, ← hm4, hn5]
      · show z5 = _
        rw [hz5, hz0, hy4, ints_app, flat_succ outB hxq, List.append_assoc]
    refine br_f (by rw [o2, cmp_lss hA]; simp; omega) ?_
    conv => cbv
    rw [List.take_of_length_le (by omega)] at hn0 hz0
    obtain ⟨p4, hp4⟩ : ∃ p4, p4 = p3 ++ (outs.map outB).flatten := ⟨_, rfl⟩
    rw [← hp4] at hn0 hz0
    have hq4 : p4.length ≤ 24 + (ins.map isz).sum + (outs.map osz).sum := by have := all_len outB osz outs (fun x _ => outB_le x); rw [hp4, List.length_append]; omega
    clear hlt hi hj hk
    refine ⟨Lr, fun x => ⟨[(9, .v (.int .i64 x.i)), (6, .v (.slice x.a x.n x.c)), (5, .v (.bool false)), (2, .p 0 0)], R, [(0, ⟨32, [.v (.int .i32 ver), .v (.slice a n c), .v (.slice a2 n2 cc), .v (.int .u32 lock)]⟩)], 1, x.rs⟩,
      fun k x => ∃ j : Nat, x.i = j ∧ j ≤ n ∧ k = n - j ∧ Base1 x.rs [] x.a x.n x.c 5 1 x.zs ∧ Bs .u8 (p4 ++ ((([] : List GIn).take j).map inB).flatten) x.n x.zs,
      ⟨n, ⟨0, a0, n0, c0, z0, rs0⟩, ⟨⟨rfl, rfl, rfl, rfl, trivial⟩, rfl, ⟨rfl, trivial⟩, rfl, .refl _⟩, 0, rfl, by omega, rfl, hb0, by simpa using hn0, by simpa using hz0⟩, ?_⟩
    clear hb0 hn0 hz0
    rintro k ⟨i, a0, n0, c0, z0, rs0⟩ ⟨j, hi, hj, hk, hb0, hn0, hz0⟩
    simp only at hi hb0 hn0 hz0
    conv => cbv
    simp only [List.take_nil, List.map_nil, List.flatten_nil] at hn0 hz0
    obtain ⟨p5, hp5⟩ : ∃ p5, p5 = p4 ++ [] := ⟨_, rfl⟩
    rw [← hp5] at hn0 hz0
    have hq5 : p5.length ≤ 24 + (ins.map isz).sum + (outs.map osz).sum := by rw [hp5, List.append_nil]; omega
    have ek : cnv .u64 lock = ((lock.toNat : Nat) : Int) := by rw [cnv_u64 hA (by omega)]; exact k1
    refine (little hP R _ 4 lock.toNat 4 ek rfl k2 (by decide)).call rfl ?_
    intro b2 m2 d2 y2 rs2 hb2 hs2 ⟨hm2, hy2⟩
    have hk2 := hm2
    rw [le_len] at hk2
    conv => cbv
    obtain ⟨rs0, hbase, hdrop⟩ := hb0.base2 hb2
    refine ⟨n0, z0, _, rs0, _, m2, y2, hbase _ _ _ _, hdrop, hb2.src hs2 (by rw [hy2, ints_len]; omega) (by rw [hy2]; exact ints_one _ _), by omega, by omega, ?_⟩
    clear hbase hdrop rs0
    intro a3 n3 c3 z3 hn3 hz3 hs3
    conv => cbv
    refine fun _ => Base1.isRow (rest := []) Base1.row ?_
    have hfin : txB ⟨ver, ins, outs, lock⟩ W = p5 ++ le 4 lock.toNat := by
      rw [hWv, hp5, hp4, hp3, hp2, hp1, hp0]
      simp [txB, verU]
    rw [hW, hfin]
    refine ⟨?_, ?_⟩
    · rw [List.length_append, ← hn0, ← hm2, hn3]
    · rw [hz3, hz0, hy2, ints_app]
  | true =>
    conv => cbv
    refine (hasWitness hP R _ _ hh).callQ rfl ?_
    rintro _ ⟨r, rfl, hr⟩
    have hWr : W = r := by rw [← hW, hr]; rfl
    cases r with
    | false =>
      have hWv : W = false := hWr
      conv => cbv
      refine little0.call rfl ?_
      intro a0 n0 c0 z0 rs0 hb0 hs0 ⟨hn0, hz0⟩
      conv => cbv
      obtain ⟨p0, hp0⟩ : ∃ p0, p0 = le 4 (ver % 4294967296).toNat := ⟨_, rfl⟩
      rw [← hp0] at hn0 hz0
      have hq0 : p0.length ≤ 6 := by rw [hp0, le_len]; decide
      have hvl := vlen_le ins.length
      have ev : cnv .u64 (ofN n) = ((ins.length : Nat) : Int) := by rw [ofN_ hA, cnv_u64 hA (by omega)]; omega
      refine (varInt hP R _ ins.length ev (by omega)).call rfl ?_
      intro b2 m2 d2 y2 rs2 hb2 hs2 ⟨hm2, hy2⟩
      have hk2 := hm2
      rw [vi_len] at hk2
      conv => cbv
      obtain ⟨rs0, hbase, hdrop⟩ := hb0.base2 hb2
      refine ⟨n0, z0, _, rs0, _, m2, y2, hbase _ _ _ _, hdrop, hb2.src hs2 (by rw [hy2, ints_len]; omega) (by rw [hy2]; exact ints_one _ _), by omega, by omega, ?_⟩
      clear hbase hdrop rs0
      intro a0 n0 c0 z0 hn3 hz3 hs3
      conv => cbv
      obtain ⟨p1, hp1⟩ : ∃ p1, p1 = p0 ++ vi ins.length := ⟨_, rfl⟩
      have hq1 : p1.length ≤ 15 := by rw [hp1, List.length_append, vi_len]; omega
      have hn3' : n0 = p1.length := by rw [hp1, List.length_append, ← hn0, ← hm2, hn3]
      have hz3' : z0 = ints .u8 p1 := by rw [hp1, hz3, hz0, hy2, ints_app]
      clear hb2 hs2 hm2 hy2 hk2 hs3 ev hn3 hz3 hb0 hn0 hz0 hvl
      have hn0 := hn3'
      have hz0 := hz3'
      clear hn3' hz3'
      generalize hrs0 : [(⟨a0, n0, c0, 5, 1, z0⟩ : Row)] = rs0
      have hb0 : Base1 rs0 [] a0 n0 c0 5 1 z0 := by rw [← hrs0]; exact Base1.row
      clear hrs0
      refine ⟨Lr, fun x => ⟨[(7, .v (.int .i64 x.i)), (6, .v (.slice x.a x.n x.c)), (5, .v (.bool false)), (2, .p 0 0)], R, [(0, ⟨32, [.v (.int .i32 ver), .v (.slice a n c), .v (.slice a2 n2 cc), .v (.int .u32 lock)]⟩)], 1, x.rs⟩,
        fun k x => ∃ j : Nat, x.i = j ∧ j ≤ n ∧ k = n - j ∧ Base1 x.rs [] x.a x.n x.c 5 1 x.zs ∧ Bs .u8 (p1 ++ ((ins.take j).map inB).flatten) x.n x.zs,
        ⟨n, ⟨0, a0, n0, c0, z0, rs0⟩, ⟨⟨rfl, rfl, rfl, rfl, trivial⟩, rfl, ⟨rfl, trivial⟩, rfl, .refl _⟩, 0, rfl, by omega, rfl, hb0, by simpa using hn0, by simpa using hz0⟩, ?_⟩
      clear hb0 hn0 hz0
      rintro k ⟨i, a0, n0, c0, z0, rs0⟩ ⟨j, hi, hj, hk, hb0, hn0, hz0⟩
      simp only at hi hb0 hn0 hz0
      conv => cbv
      by_cases hlt : j < n
      case pos =>
        refine br_t (by rw [o, cmp_lss hA]; simp; omega) ?_
        conv => cbv
        obtain ⟨q, hxq⟩ : ∃ q, ins[j]? = some q := ⟨_, List.getElem?_eq_getElem (by omega)⟩
        refine ix_at hA h3 j hi hlt ?_
        refine ld_whole hA h3 j hi hxq ?_
        intro cs hcs hin
        have hsc : isz q = 50 + q.script.length + (q.wit.map wsz).sum := rfl
        have hqs := mem_sum isz (List.mem_of_getElem? hxq)
        have hib := inBytes hP R cs q hin (by omega)
        generalize Value.agg cs.toArray = vq at hib ⊢
        conv => cbv
        have hfl := flat_len inB isz ins j h32
        refine hib.call rfl ?_
        intro b4 m4 d4 y4 rs4 hb4 hs4 ⟨hm4, hy4⟩
        have hk0 := hn0
        rw [List.length_append] at hk0
        have hk4 := h32 q (List.mem_of_getElem? hxq)
        rw [← hm4] at hk4
        have hq := mem_sum isz (List.mem_of_getElem? hxq)
        conv => cbv
        obtain ⟨rs0, hbase, hdrop⟩ := hb0.base2 hb4
        refine ⟨n0, z0, _, rs0, _, m4, y4, hbase _ _ _ _, hdrop, hb4.src hs4 (by rw [hy4, ints_len]; omega) (by rw [hy4]; exact ints_one _ _), by omega, by omega, ?_⟩
        clear hbase hdrop rs0
        intro a5 n5 c5 z5 hn5 hz5 hs5
        conv => cbv
        refine ⟨n - (j + 1), ⟨i + 1, a5, n5, c5, z5, _⟩, by omega, ⟨⟨?_, rfl, rfl, rfl, trivial⟩, rfl, ⟨rfl, trivial⟩, rfl, .refl _⟩, j + 1, by show i + 1 = ((j + 1 : Nat) : Int); omega, by omega, rfl, Base1.row, ?_, ?_⟩
        · rw [add_i64 hA (by omega)]
          rfl
        · show n5 = _
          rw [flat_succ inB hxq, ← List.append_assoc, List.length_append, ← hn0, ← hm4, hn5]
        · show z5 = _
          rw [hz5, hz0, hy4, ints_app, flat_succ inB hxq, List.append_assoc]
      refine br_f (by rw [o, cmp_lss hA]; simp; omega) ?_
      conv => cbv
      rw [List.take_of_length_le (by omega)] at hn0 hz0
      obtain ⟨p2, hp2⟩ : ∃ p2, p2 = p1 ++ (ins.map inB).flatten := ⟨_, rfl⟩
      rw [← hp2] at hn0 hz0
      have hq2 : p2.length ≤ 15 + (ins.map isz).sum := by have := all_len inB isz ins h32; rw [hp2, List.length_append]; omega
      clear hlt hi hj hk
      have hvl := vlen_le outs.length
      have ev : cnv .u64 (ofN n2) = ((outs.length : Nat) : Int) := by rw [ofN_ hA, cnv_u64 hA (by omega)]; omega
      refine (varInt hP R _ outs.length ev (by omega)).call rfl ?_
      intro b2 m2 d2 y2 rs2 hb2 hs2 ⟨hm2, hy2⟩
      have hk2 := hm2
      rw [vi_len] at hk2
      conv => cbv
      obtain ⟨rs0, hbase, hdrop⟩ := hb0.base2 hb2
      refine ⟨n0, z0, _, rs0, _, m2, y2, hbase _ _ _ _, hdrop, hb2.src hs2 (by rw [hy2, ints_len]; omega) (by rw [hy2]; exact ints_one _ _), by omega, by omega, ?_⟩
      clear hbase hdrop rs0
      intro a0 n0 c0 z0 hn3 hz3 hs3
      conv => cbv
      obtain ⟨p3, hp3⟩ : ∃ p3, p3 = p2 ++ vi outs.length := ⟨_, rfl⟩
      have hq3 : p3.length ≤ (24 + (ins.map isz).sum) := by rw [hp3, List.length_append, vi_len]; omega
      have hn3' : n0 = p3.length := by rw [hp3, List.length_append, ← hn0, ← hm2, hn3]
      have hz3' : z0 = ints .u8 p3 := by rw [hp3, hz3, hz0, hy2, ints_app]
      clear hb2 hs2 hm2 hy2 hk2 hs3 ev hn3 hz3 hb0 hn0 hz0 hvl
      have hn0 := hn3'
      have hz0 := hz3'
      clear hn3' hz3'
      generalize hrs0 : [(⟨a0, n0, c0, 5, 1, z0⟩ : Row)] = rs0
      have hb0 : Base1 rs0 [] a0 n0 c0 5 1 z0 := by rw [← hrs0]; exact Base1.row
      clear hrs0
      refine ⟨Lr, fun x => ⟨[(8, .v (.int .i64 x.i)), (6, .v (.slice x.a x.n x.c)), (5, .v (.bool false)), (2, .p 0 0)], R, [(0, ⟨32, [.v (.int .i32 ver), .v (.slice a n c), .v (.slice a2 n2 cc), .v (.int .u32 lock)]⟩)], 1, x.rs⟩,
        fun k x => ∃ j : Nat, x.i = j ∧ j ≤ n2 ∧ k = n2 - j ∧ Base1 x.rs [] x.a x.n x.c 5 1 x.zs ∧ Bs .u8 (p3 ++ ((outs.take j).map outB).flatten) x.n x.zs,
        ⟨n2, ⟨0, a0, n0, c0, z0, rs0⟩, ⟨⟨rfl, rfl, rfl, rfl, trivial⟩, rfl, ⟨rfl, trivial⟩, rfl, .refl _⟩, 0, rfl, by omega, rfl, hb0, by simpa using hn0, by simpa using hz0⟩, ?_⟩
      clear hb0 hn0 hz0
      rintro k ⟨i, a0, n0, c0, z0, rs0⟩ ⟨j, hi, hj, hk, hb0, hn0, hz0⟩
      simp only at hi hb0 hn0 hz0
      conv => cbv
      by_cases hlt : j < n2
      case pos =>
        refine br_t (by rw [o2, cmp_lss hA]; simp; omega) ?_
        conv => cbv
        obtain ⟨q, hxq⟩ : ∃ q, outs[j]? = some q := ⟨_, List.getElem?_eq_getElem (by omega)⟩
        refine ix_at hA h4 j hi hlt ?_
        refine ld_whole hA h4 j hi hxq ?_
        intro cs hcs hin
        have hsc : osz q = 17 + q.pk.length := rfl
        have hqs := mem_sum osz (List.mem_of_getElem? hxq)
        have hib := outBytes hP R cs q hin (by omega)
        generalize Value.agg cs.toArray = vq at hib ⊢
        conv => cbv
        have hfl := flat_len outB osz outs j (fun x _ => outB_le x)
        refine hib.call rfl ?_
        intro b4 m4 d4 y4 rs4 hb4 hs4 ⟨hm4, hy4⟩
        have hk0 := hn0
        rw [List.length_append] at hk0
        have hk4 := (fun x _ => outB_le x) q (List.mem_of_getElem? hxq)
        rw [← hm4] at hk4
        have hq := mem_sum osz (List.mem_of_getElem? hxq)
        conv => cbv
        obtain ⟨rs0, hbase, hdrop⟩ := hb0.base2 hb4
        refine ⟨n0, z0, _, rs0, _, m4, y4, hbase _ _ _ _, hdrop, hb4.src hs4 (by rw [hy4, ints_len]; omega) (by rw [hy4]; exact ints_one _ _), by omega, by omega, ?_⟩
        clear hbase hdrop rs0
        intro a5 n5 c5 z5 hn5 hz5 hs5
        conv => cbv
        refine ⟨n2 - (j + 1), ⟨i + 1, a5, n5, c5, z5, _⟩, by omega, ⟨⟨?_, rfl, rfl, rfl, trivial⟩, rfl, ⟨rfl, trivial⟩, rfl, .refl _⟩, j + 1, by show i + 1 = ((j + 1 : Nat) : Int); omega, by omega, rfl, Base1.row, ?_, ?_⟩
        · rw [add_i64 hA (by omega)]
          rfl
        · show n5 = _
          rw [flat_succ outB hxq, ← List.append_assoc, List.length_append, ← hn0, ← hm4, hn5]
        · show z5 = _
          rw [hz5, hz0, hy4, ints_app, flat_succ outB hxq, List.append_assoc]
      refine br_f (by rw [o2, cmp_lss hA]; simp; omega) ?_
      conv => cbv
      rw [List.take_of_length_le (by omega)] at hn0 hz0
      obtain ⟨p4, hp4⟩ : ∃ p4, p4 = p3 ++ (outs.map outB).flatten := ⟨_, rfl⟩
      rw [← hp4] at hn0 hz0
      have hq4 : p4.length ≤ 24 + (ins.map isz).sum + (outs.map osz).sum := by have := all_len outB osz outs (fun x _ => outB_le x); rw [hp4, List.length_append]; omega
      clear hlt hi hj hk
      refine ⟨Lr, fun x => ⟨[(9, .v (.int .i64 x.i)), (6, .v (.slice x.a x.n x.c)), (5, .v (.bool false)), (2, .p 0 0)], R, [(0, ⟨32, [.v (.int .i32 ver), .v (.slice a n c), .v (.slice a2 n2 cc), .v (.int .u32 lock)]⟩)], 1, x.rs⟩,
        fun k x => ∃ j : Nat, x.i = j ∧ j ≤ n ∧ k = n - j ∧ Base1 x.rs [] x.a x.n x.c 5 1 x.zs ∧ Bs .u8 (p4 ++ ((([] : List GIn).take j).map inB).flatten) x.n x.zs,
        ⟨n, ⟨0, a0, n0, c0, z0, rs0⟩, ⟨⟨rfl, rfl, rfl, rfl, trivial⟩, rfl, ⟨rfl, trivial⟩, rfl, .refl _⟩, 0, rfl, by omega, rfl, hb0, by simpa using hn0, by simpa using hz0⟩, ?_⟩
      clear hb0 hn0 hz0
      rintro k ⟨i, a0, n0, c0, z0, rs0⟩ ⟨j, hi, hj, hk, hb0, hn0, hz0⟩
      simp only at hi hb0 hn0 hz0
      conv => cbv
      simp only [List.take_nil, List.map_nil, List.flatten_nil] at hn0 hz0
      obtain ⟨p5, hp5⟩ : ∃ p5, p5 = p4 ++ [] := ⟨_, rfl⟩
      rw [← hp5] at hn0 hz0
      have hq5 : p5.length ≤ 24 + (ins.map isz).sum + (outs.map osz).sum := by rw [hp5, List.append_nil]; omega
      have ek : cnv .u64 lock = ((lock.toNat : Nat) : Int) := by rw [cnv_u64 hA (by omega)]; exact k1
      refine (little hP R _ 4 lock.toNat 4 ek rfl k2 (by decide)).call rfl ?_
      intro b2 m2 d2 y2 rs2 hb2 hs2 ⟨hm2, hy2⟩
      have hk2 := hm2
      rw [le_len] at hk2
      conv => cbv
      obtain ⟨rs0, hbase, hdrop⟩ := hb0.base2 hb2
      refine ⟨n0, z0, _, rs0, _, m2, y2, hbase _ _ _ _, hdrop, hb2.src hs2 (by rw [hy2, ints_len]; omega) (by rw [hy2]; exact ints_one _ _), by omega, by omega, ?_⟩
      clear hbase hdrop rs0
      intro a3 n3 c3 z3 hn3 hz3 hs3
      conv => cbv
      refine fun _ => Base1.isRow (rest := []) Base1.row ?_
      have hfin : txB ⟨ver, ins, outs, lock⟩ W = p5 ++ le 4 lock.toNat := by
        rw [hWv, hp5, hp4, hp3, hp2, hp1, hp0]
        simp [txB, verU]
      rw [hW, hfin]
      refine ⟨?_, ?_⟩
      · rw [List.length_append, ← hn0, ← hm2, hn3]
      · rw [hz3, hz0, hy2, ints_app]
    | true =>
      have hWv : W = true := hWr
      conv => cbv
      refine little0.call rfl ?_
      intro a9 n9 c9 z9 rs9 hb9 hs9 ⟨hn9, hz9⟩
      have hk9 := hn9
      rw [le_len] at hk9
      conv => cbv
      refine ⟨n9, z9, _, _, _, 2, ints .u8 [0, 1], hb9.base, .refl _, .own 1 0 2 2 _ _ rfl rfl rfl (ints_one _ _), by omega, by omega, ?_⟩
      intro a0 n0 c0 z0 hn3 hz3 hs3
      conv => cbv
      obtain ⟨p0, hp0⟩ : ∃ p0, p0 = le 4 (ver % 4294967296).toNat ++ [0, 1] := ⟨_, rfl⟩
      have hq0 : p0.length ≤ 6 := by rw [hp0, List.length_append, le_len]; decide
      have hn0 : n0 = p0.length := by rw [hp0, List.length_append, le_len, hn3, hk9]; rfl
      have hz0 : z0 = ints .u8 p0 := by rw [hp0, hz3, hz9, ints_app]
      clear hn3 hz3 hs3 hb9 hs9 hn9 hz9 hk9
      generalize hrs0 : [(⟨a0, n0, c0, 5, 1, z0⟩ : Row)] = rs0
      have hb0 : Base1 rs0 [] a0 n0 c0 5 1 z0 := by rw [← hrs0]; exact Base1.row
      clear hrs0
      have hvl := vlen_le ins.length
      have ev : cnv .u64 (ofN n) = ((ins.length : Nat) : Int) := by rw [ofN_ hA, cnv_u64 hA (by omega)]; omega
      refine (varInt hP R _ ins.length ev (by omega)).call rfl ?_
      intro b2 m2 d2 y2 rs2 hb2 hs2 ⟨hm2, hy2⟩
      have hk2 := hm2
      rw [vi_len] at hk2
      conv => cbv
      obtain ⟨rs0, hbase, hdrop⟩ := hb0.base2 hb2
      refine ⟨n0, z0, _, rs0, _, m2, y2, hbase _ _ _ _, hdrop, hb2.src hs2 (by rw [hy2, ints_len]; omega) (by rw [hy2]; exact ints_one _ _), by omega, by omega, ?_⟩
      clear hbase hdrop rs0
      intro a0 n0 c0 z0 hn3 hz3 hs3
      conv => cbv
      obtain ⟨p1, hp1⟩ : ∃ p1, p1 = p0 ++ vi ins.length := ⟨_, rfl⟩
      have hq1 : p1.length ≤ 15 := by rw [hp1, List.length_append, vi_len]; omega
      have hn3' : n0 = p1.length := by rw [hp1, List.length_append, ← hn0, ← hm2, hn3]
      have hz3' : z0 = ints .u8 p1 := by rw [hp1, hz3, hz0, hy2, ints_app]
      clear hb2 hs2 hm2 hy2 hk2 hs3 ev hn3 hz3 hb0 hn0 hz0 hvl
      have hn0 := hn3'
      have hz0 := hz3'
      clear hn3' hz3'
      generalize hrs0 : [(⟨a0, n0, c0, 5, 1, z0⟩ : Row)] = rs0
      have hb0 : Base1 rs0 [] a0 n0 c0 5 1 z0 := by rw [← hrs0]; exact Base1.row
      clear hrs0
      refine ⟨Lr, fun x => ⟨[(7, .v (.int .i64 x.i)), (6, .v (.slice x.a x.n x.c)), (5, .v (.bool true)), (2, .p 0 0)], R, [(0, ⟨32, [.v (.int .i32 ver), .v (.slice a n c), .v (.slice a2 n2 cc), .v (.int .u32 lock)]⟩)], 2, x.rs⟩,
        fun k x => ∃ j : Nat, x.i = j ∧ j ≤ n ∧ k = n - j ∧ Base1 x.rs [] x.a x.n x.c 5 1 x.zs ∧ Bs .u8 (p1 ++ ((ins.take j).map inB).flatten) x.n x.zs,
        ⟨n, ⟨0, a0, n0, c0, z0, rs0⟩, ⟨⟨rfl, rfl, rfl, rfl, trivial⟩, rfl, ⟨rfl, trivial⟩, rfl, .refl _⟩, 0, rfl, by omega, rfl, hb0, by simpa using hn0, by simpa using hz0⟩, ?_⟩
      clear hb0 hn0 hz0
      rintro k ⟨i, a0, n0, c0, z0, rs0⟩ ⟨j, hi, hj, hk, hb0, hn0, hz0⟩
      simp only at hi hb0 hn0 hz0
      conv => cbv
      by_cases hlt : j < n
      case pos =>
        refine br_t (by rw [o, cmp_lss hA]; simp; omega) ?_
        conv => cbv
        obtain ⟨q, hxq⟩ : ∃ q, ins[j]? = some q := ⟨_, List.getElem?_eq_getElem (by omega)⟩
        refine ix_at hA h3 j hi hlt ?_
        refine ld_whole hA h3 j hi hxq ?_
        intro cs hcs hin
        have hsc : isz q = 50 + q.script.length + (q.wit.map wsz).sum := rfl
        have hqs := mem_sum isz (List.mem_of_getElem? hxq)
        have hib := inBytes hP R cs q hin (by omega)
        generalize Value.agg cs.toArray = vq at hib ⊢
        conv => cbv
        have hfl := flat_len inB isz ins j h32
        refine hib.call rfl ?_
        intro b4 m4 d4 y4 rs4 hb4 hs4 ⟨hm4, hy4⟩
        have hk0 := hn0
        rw [List.length_append] at hk0
        have hk4 := h32 q (List.mem_of_getElem? hxq)
        rw [← hm4] at hk4
        have hq := mem_sum isz (List.mem_of_getElem? hxq)
        conv => cbv
        obtain ⟨rs0, hbase, hdrop⟩ := hb0.base2 hb4
        refine ⟨n0, z0, _, rs0, _, m4, y4, hbase _ _ _ _, hdrop, hb4.src hs4 (by rw [hy4, ints_len]; omega) (by rw [hy4]; exact ints_one _ _), by omega, by omega, ?_⟩
        clear hbase hdrop rs0
        intro a5 n5 c5 z5 hn5 hz5 hs5
        conv => cbv
        refine ⟨n - (j + 1), ⟨i + 1, a5, n5, c5, z5, _⟩, by omega, ⟨⟨?_, rfl, rfl, rfl, trivial⟩, rfl, ⟨rfl, trivial⟩, rfl, .refl _⟩, j + 1, by show i + 1 = ((j + 1 : Nat) : Int); omega, by omega, rfl, Base1.row, ?_, ?_⟩
        · rw [add_i64 hA (by omega)]
          rfl
        · show n5 = _
          rw [flat_succ inB hxq, ← List.append_assoc, List.length_append, ← hn0, ← hm4, hn5]
        · show z5 = _
          rw [hz5, hz0, hy4, ints_app, flat_succ inB hxq, List.append_assoc]
      refine br_f (by rw [o, cmp_lss hA]; simp; omega) ?_
      conv => cbv
      rw [List.take_of_length_le (by omega)] at hn0 hz0
      obtain ⟨p2, hp2⟩ : ∃ p2, p2 = p1 ++ (ins.map inB).flatten := ⟨_, rfl⟩
      rw [← hp2] at hn0 hz0
      have hq2 : p2.length ≤ 15 + (ins.map isz).sum := by have := all_len inB isz ins h32; rw [hp2, List.length_append]; omega
      clear hlt hi hj hk
      have hvl := vlen_le outs.length
      have ev : cnv .u64 (ofN n2) = ((outs.length : Nat) : Int) := by rw [ofN_ hA, cnv_u64 hA (by omega)]; omega
      refine (varInt hP R _ outs.length ev (by omega)).call rfl ?_
      intro b2 m2 d2 y2 rs2 hb2 hs2 ⟨hm2, hy2⟩
      have hk2 := hm2
      rw [vi_len] at hk2
      conv => cbv
      obtain ⟨rs0, hbase, hdrop⟩ := hb0.base2 hb2
      refine ⟨n0, z0, _, rs0, _, m2, y2, hbase _ _ _ _, hdrop, hb2.src hs2 (by rw [hy2, ints_len]; omega) (by rw [hy2]; exact ints_one _ _), by omega, by omega, ?_⟩
      clear hbase hdrop rs0
      intro a0 n0 c0 z0 hn3 hz3 hs3
      conv => cbv
      obtain ⟨p3, hp3⟩ : ∃ p3, p3 = p2 ++ vi outs.length := ⟨_, rfl⟩
      have hq3 : p3.length ≤ (24 + (ins.map isz).sum) := by rw [hp3, List.length_append, vi_len]; omega
      have hn3' : n0 = p3.length := by rw [hp3, List.length_append, ← hn0, ← hm2, hn3]
      have hz3' : z0 = ints .u8 p3 := by rw [hp3, hz3, hz0, hy2, ints_app]
      clear hb2 hs2 hm2 hy2 hk2 hs3 ev hn3 hz3 hb0 hn0 hz0 hvl
      have hn0 := hn3'
      have hz0 := hz3'
      clear hn3' hz3'
      generalize hrs0 : [(⟨a0, n0, c0, 5, 1, z0⟩ : Row)] = rs0
      have hb0 : Base1 rs0 [] a0 n0 c0 5 1 z0 := by rw [← hrs0]; exact Base1.row
      clear hrs0
      refine ⟨Lr, fun x => ⟨[(8, .v (.int .i64 x.i)), (6, .v (.slice x.a x.n x.c)), (5, .v (.bool true)), (2, .p 0 0)], R, [(0, ⟨32, [.v (.int .i32 ver), .v (.slice a n c), .v (.slice a2 n2 cc), .v (.int .u32 lock)]⟩)], 2, x.rs⟩,
        fun k x => ∃ j : Nat, x.i = j ∧ j ≤ n2 ∧ k = n2 - j ∧ Base1 x.rs [] x.a x.n x.c 5 1 x.zs ∧ Bs .u8 (p3 ++ ((outs.take j).map outB).flatten) x.n x.zs,
        ⟨n2, ⟨0, a0, n0, c0, z0, rs0⟩, ⟨⟨rfl, rfl, rfl, rfl, trivial⟩, rfl, ⟨rfl, trivial⟩, rfl, .refl _⟩, 0, rfl, by omega, rfl, hb0, by simpa using hn0, by simpa using hz0⟩, ?_⟩
      clear hb0 hn0 hz0
      rintro k ⟨i, a0, n0, c0, z0, rs0⟩ ⟨j, hi, hj, hk, hb0, hn0, hz0⟩
      simp only at hi hb0 hn0 hz0
      conv => cbv
      by_cases hlt : j < n2
      case pos =>
        refine br_t (by rw [o2, cmp_lss hA]; simp; omega) ?_
        conv => cbv
        obtain ⟨q, hxq⟩ : ∃ q, outs[j]? = some q := ⟨_, List.getElem?_eq_getElem (by omega)⟩
        refine ix_at hA h4 j hi hlt ?_
        refine ld_whole hA h4 j hi hxq ?_
        intro cs hcs hin
        have hsc : osz q = 17 + q.pk.length := rfl
        have hqs := mem_sum osz (List.mem_of_getElem? hxq)
        have hib := outBytes hP R cs q hin (by omega)
        generalize Value.agg cs.toArray = vq at hib ⊢
        conv => cbv
        have hfl := flat_len outB osz outs j (fun x _ => outB_le x)
        refine hib.call rfl ?_
        intro b4 m4 d4 y4 rs4 hb4 hs4 ⟨hm4, hy4⟩
        have hk0 := hn0
        rw [List.length_append] at hk0
        have hk4 := (fun x _ => outB_le x) q (List.mem_of_getElem? hxq)
        rw [← hm4] at hk4
        have hq := mem_sum osz (List.mem_of_getElem? hxq)
        conv => cbv
        obtain ⟨rs0, hbase, hdrop⟩ := hb0.base2 hb4
        refine ⟨n0, z0, _, rs0, _, m4, y4, hbase _ _ _ _, hdrop, hb4.src hs4 (by rw [hy4, ints_len]; omega) (by rw [hy4]; exact ints_one _ _), by omega, by omega, ?_⟩
        clear hbase hdrop rs0
        intro a5 n5 c5 z5 hn5 hz5 hs5
        conv => cbv
        refine ⟨n2 - (j + 1), ⟨i + 1, a5, n5, c5, z5, _⟩, by omega, ⟨⟨?_, rfl, rfl, rfl, trivial⟩, rfl, ⟨rfl, trivial⟩, rfl, .refl _⟩, j + 1, by show i + 1 = ((j + 1 : Nat) : Int); omega, by omega, rfl, Base1.row, ?_, ?_⟩
        · rw [add_i64 hA (by omega)]
          rfl
        · show n5 = _
          rw [flat_succ outB hxq, ← List.append_assoc, List.length_append, ← hn0, ← hm4, hn5]
        · show z5 = _
          rw [hz5, hz0, hy4, ints_app, flat_succ outB hxq, List.append_assoc]
      refine br_f (by rw [o2, cmp_lss hA]; simp; omega) ?_
      conv => cbv
      rw [List.take_of_length_le (by omega)] at hn0 hz0
      obtain ⟨p4, hp4⟩ : ∃ p4, p4 = p3 ++ (outs.map outB).flatten := ⟨_, rfl⟩
      rw [← hp4] at hn0 hz0
      have hq4 : p4.length ≤ 24 + (ins.map isz).sum + (outs.map osz).sum := by have := all_len outB osz outs (fun x _ => outB_le x); rw [hp4, List.length_append]; omega
      clear hlt hi hj hk
      refine ⟨Lr, fun x => ⟨[(9, .v (.int .i64 x.i)), (6, .v (.slice x.a x.n x.c)), (5, .v (.bool true)), (2, .p 0 0)], R, [(0, ⟨32, [.v (.int .i32 ver), .v (.slice a n c), .v (.slice a2 n2 cc), .v (.int .u32 lock)]⟩)], 2, x.rs⟩,
        fun k x => ∃ j : Nat, x.i = j ∧ j ≤ n ∧ k = n - j ∧ Base1 x.rs [] x.a x.n x.c 5 1 x.zs ∧ Bs .u8 (p4 ++ ((ins.take j).map (fun q => witB q.wit)).flatten) x.n x.zs,
        ⟨n, ⟨0, a0, n0, c0, z0, rs0⟩, ⟨⟨rfl, rfl, rfl, rfl, trivial⟩, rfl, ⟨rfl, trivial⟩, rfl, .refl _⟩, 0, rfl, by omega, rfl, hb0, by simpa using hn0, by simpa using hz0⟩, ?_⟩
      clear hb0 hn0 hz0
      rintro k ⟨i, a0, n0, c0, z0, rs0⟩ ⟨j, hi, hj, hk, hb0, hn0, hz0⟩
      simp only at hi hb0 hn0 hz0
      conv => cbv
      by_cases hlt : j < n
      case pos =>
        refine br_t (by rw [o, cmp_lss hA]; simp; omega) ?_
        conv => cbv
        obtain ⟨q, hxq⟩ : ∃ q, ins[j]? = some q := ⟨_, List.getElem?_eq_getElem (by omega)⟩
        refine ix_at hA h3 j hi hlt ?_
        refine ld_fld hA h3 j hi hxq 34 ?_
        rintro _ - ⟨b, m, d, b8, m8, d8, rfl, g0, g1, g2, g3, g4, g5, g6⟩
        refine ⟨.slice b8 m8 d8, by rw [List.getElem?_append_right (by rw [ints_len, g0]; omega), ints_len, g0]; rfl, ?_⟩
        conv => cbv
        have hsc : isz q = 50 + q.script.length + (q.wit.map wsz).sum := rfl
        have hqs := mem_sum isz (List.mem_of_getElem? hxq)
        have hib := witnessBytes hP R b8 m8 d8 q.wit g6 (by omega)
        have h33 : ∀ x ∈ ins, (witB x.wit).length ≤ isz x := fun x _ => witB_le x
        have hfl := flat_len (fun q => witB q.wit) isz ins j h33
        refine hib.call rfl ?_
        intro b4 m4 d4 y4 rs4 hb4 hs4 ⟨hm4, hy4⟩
        have hk0 := hn0
        rw [List.length_append] at hk0
        have hk4 := h33 q (List.mem_of_getElem? hxq)
        rw [← hm4] at hk4
        have hq := mem_sum isz (List.mem_of_getElem? hxq)
        conv => cbv
        obtain ⟨rs0, hbase, hdrop⟩ := hb0.base2 hb4
        refine ⟨n0, z0, _, rs0, _, m4, y4, hbase _ _ _ _, hdrop, hb4.src hs4 (by rw [hy4, ints_len]; omega) (by rw [hy4]; exact ints_one _ _), by omega, by omega, ?_⟩
        clear hbase hdrop rs0
        intro a5 n5 c5 z5 hn5 hz5 hs5
        conv => cbv
        refine ⟨n - (j + 1), ⟨i + 1, a5, n5, c5, z5, _⟩, by omega, ⟨⟨?_, rfl, rfl, rfl, trivial⟩, rfl, ⟨rfl, trivial⟩, rfl, .refl _⟩, j + 1, by show i + 1 = ((j + 1 : Nat) : Int); omega, by omega, rfl, Base1.row, ?_, ?_⟩
        · rw [add_i64 hA (by omega)]
          rfl
        · show n5 = _
          rw [flat_succ (fun q => witB q.wit) hxq, ← List.append_assoc, List.length_append, ← hn0, ← hm4, hn5]
        · show z5 = _
          rw [hz5, hz0, hy4, ints_app, flat_succ (fun q => witB q.wit) hxq, List.append_assoc]
      refine br_f (by rw [o, cmp_lss hA]; simp; omega) ?_
      conv => cbv
      rw [List.take_of_length_le (by omega)] at hn0 hz0
      obtain ⟨p5, hp5⟩ : ∃ p5, p5 = p4 ++ (ins.map fun q => witB q.wit).flatten := ⟨_, rfl⟩
      rw [← hp5] at hn0 hz0
      have hq5 : p5.length ≤ 24 + (ins.map isz).sum + (outs.map osz).sum + (ins.map isz).sum := by have := all_len (fun q : GIn => witB q.wit) isz ins (fun x _ => witB_le x); rw [hp5, List.length_append]; omega
      have ek : cnv .u64 lock = ((lock.toNat : Nat) : Int) := by rw [cnv_u64 hA (by omega)]; exact k1
      refine (little hP R _ 4 lock.toNat 4 ek rfl k2 (by decide)).call rfl ?_
      intro b2 m2 d2 y2 rs2 hb2 hs2 ⟨hm2, hy2⟩
      have hk2 := hm2
      rw [le_len] at hk2
      conv => cbv
      obtain ⟨rs0, hbase, hdrop⟩ := hb0.base2 hb2
      refine ⟨n0, z0, _, rs0, _, m2, y2, hbase _ _ _ _, hdrop, hb2.src hs2 (by rw [hy2, ints_len]; omega) (by rw [hy2]; exact ints_one _ _), by omega, by omega, ?_⟩
      clear hbase hdrop rs0
      intro a3 n3 c3 z3 hn3 hz3 hs3
      conv => cbv
      refine fun _ => Base1.isRow (rest := []) Base1.row ?_
      have hfin : txB ⟨ver, ins, outs, lock⟩ W = p5 ++ le 4 lock.toNat := by
        rw [hWv, hp5, hp4, hp3, hp2, hp1, hp0]
        simp [txB, verU]
      rw [hW, hfin]
      refine ⟨?_, ?_⟩
      · rw [List.length_append, ← hn0, ← hm2, hn3]
      · rw [hz3, hz0, hy2, ints_app]
end Go.Proofs.Ytclkimgpdnldnaa.Tx
