/- SHA-256: Sum, Sum256. -/
/- The types that some functions name, as the evaluator wants them. Printed by a program of my own (seatgen.py). -/
/- SHA-256: Sum256. -/
/- Copy into a block of the call's own. -/
/- The types that some functions name, as the evaluator wants them. Printed by a program of my own (seatgen.py). -/
import Derived.Test.YtepfbdfbfimefaaDoorMTyso
import Derived.Test.YtepfbdfbfimefaaDoorSl
import Derived.Test.YtepfbdfbfimefaaDoorProg
import Derived.KernelRfl
import Derived.Test.YtepfbdfbfimefaaDoorSu
section
set_option linter.unusedSimpArgs false
set_option linter.unusedVariables false
namespace Go.Proofs.YtepfbdfbfimefaaDoor.Sha
open Go Go.Se Go.Proofs Go.Proofs.YtepfbdfbfimefaaDoor.Tyso

theorem list64 {α : Type} (l : List α) (h : l.length = 64) : ∃ b0 b1 b2 b3 b4 b5 b6 b7 b8 b9 b10 b11 b12 b13 b14 b15 b16 b17 b18 b19 b20 b21 b22 b23 b24 b25 b26 b27 b28 b29 b30 b31 b32 b33 b34 b35 b36 b37 b38 b39 b40 b41 b42 b43 b44 b45 b46 b47 b48 b49 b50 b51 b52 b53 b54 b55 b56 b57 b58 b59 b60 b61 b62 b63, l = [b0, b1, b2, b3, b4, b5, b6, b7, b8, b9, b10, b11, b12, b13, b14, b15, b16, b17, b18, b19, b20, b21, b22, b23, b24, b25, b26, b27, b28, b29, b30, b31, b32, b33, b34, b35, b36, b37, b38, b39, b40, b41, b42, b43, b44, b45, b46, b47, b48, b49, b50, b51, b52, b53, b54, b55, b56, b57, b58, b59, b60, b61, b62, b63] := by
  obtain ⟨b0, l0, e0, h⟩ := uncons h
  obtain ⟨b1, l1, e1, h⟩ := uncons h
  obtain ⟨b2, l2, e2, h⟩ := uncons h
  obtain ⟨b3, l3, e3, h⟩ := uncons h
  obtain ⟨b4, l4, e4, h⟩ := uncons h
  obtain ⟨b5, l5, e5, h⟩ := uncons h
  obtain ⟨b6, l6, e6, h⟩ := uncons h
  obtain ⟨b7, l7, e7, h⟩ := uncons h
  obtain ⟨b8, l8, e8, h⟩ := uncons h
  obtain ⟨b9, l9, e9, h⟩ := uncons h
  obtain ⟨b10, l10, e10, h⟩ := uncons h
  obtain ⟨b11, l11, e11, h⟩ := uncons h
  obtain ⟨b12, l12, e12, h⟩ := uncons h
  obtain ⟨b13, l13, e13, h⟩ := uncons h
  obtain ⟨b14, l14, e14, h⟩ := uncons h
  obtain ⟨b15, l15, e15, h⟩ := uncons h
  obtain ⟨b16, l16, e16, h⟩ := uncons h
  obtain ⟨b17, l17, e17, h⟩ := uncons h
  obtain ⟨b18, l18, e18, h⟩ := uncons h
  obtain ⟨b19, l19, e19, h⟩ := uncons h
  obtain ⟨b20, l20, e20, h⟩ := uncons h
  obtain ⟨b21, l21, e21, h⟩ := uncons h
  obtain ⟨b22, l22, e22, h⟩ := uncons h
  obtain ⟨b23, l23, e23, h⟩ := uncons h
  obtain ⟨b24, l24, e24, h⟩ := uncons h
  obtain ⟨b25, l25, e25, h⟩ := uncons h
  obtain ⟨b26, l26, e26, h⟩ := uncons h
  obtain ⟨b27, l27, e27, h⟩ := uncons h
  obtain ⟨b28, l28, e28, h⟩ := uncons h
  obtain ⟨b29, l29, e29, h⟩ := uncons h
  obtain ⟨b30, l30, e30, h⟩ := uncons h
  obtain ⟨b31, l31, e31, h⟩ := uncons h
  obtain ⟨b32, l32, e32, h⟩ := uncons h
  obtain ⟨b33, l33, e33, h⟩ := uncons h
  obtain ⟨b34, l34, e34, h⟩ := uncons h
  obtain ⟨b35, l35, e35, h⟩ := uncons h
  obtain ⟨b36, l36, e36, h⟩ := uncons h
  obtain ⟨b37, l37, e37, h⟩ := uncons h
  obtain ⟨b38, l38, e38, h⟩ := uncons h
  obtain ⟨b39, l39, e39, h⟩ := uncons h
  obtain ⟨b40, l40, e40, h⟩ := uncons h
  obtain ⟨b41, l41, e41, h⟩ := uncons h
  obtain ⟨b42, l42, e42, h⟩ := uncons h
  obtain ⟨b43, l43, e43, h⟩ := uncons h
  obtain ⟨b44, l44, e44, h⟩ := uncons h
  obtain ⟨b45, l45, e45, h⟩ := uncons h
  obtain ⟨b46, l46, e46, h⟩ := uncons h
  obtain ⟨b47, l47, e47, h⟩ := uncons h
  obtain ⟨b48, l48, e48, h⟩ := uncons h
  obtain ⟨b49, l49, e49, h⟩ := uncons h
  obtain ⟨b50, l50, e50, h⟩ := uncons h
  obtain ⟨b51, l51, e51, h⟩ := uncons h
  obtain ⟨b52, l52, e52, h⟩ := uncons h
  obtain ⟨b53, l53, e53, h⟩ := uncons h
  obtain ⟨b54, l54, e54, h⟩ := uncons h
  obtain ⟨b55, l55, e55, h⟩ := uncons h
  obtain ⟨b56, l56, e56, h⟩ := uncons h
  obtain ⟨b57, l57, e57, h⟩ := uncons h
  obtain ⟨b58, l58, e58, h⟩ := uncons h
  obtain ⟨b59, l59, e59, h⟩ := uncons h
  obtain ⟨b60, l60, e60, h⟩ := uncons h
  obtain ⟨b61, l61, e61, h⟩ := uncons h
  obtain ⟨b62, l62, e62, h⟩ := uncons h
  obtain ⟨b63, l63, e63, h⟩ := uncons h
  exact ⟨b0, b1, b2, b3, b4, b5, b6, b7, b8, b9, b10, b11, b12, b13, b14, b15, b16, b17, b18, b19, b20, b21, b22, b23, b24, b25, b26, b27, b28, b29, b30, b31, b32, b33, b34, b35, b36, b37, b38, b39, b40, b41, b42, b43, b44, b45, b46, b47, b48, b49, b50, b51, b52, b53, b54, b55, b56, b57, b58, b59, b60, b61, b62, b63, by rw [e0, e1, e2, e3, e4, e5, e6, e7, e8, e9, e10, e11, e12, e13, e14, e15, e16, e17, e18, e19, e20, e21, e22, e23, e24, e25, e26, e27, e28, e29, e30, e31, e32, e33, e34, e35, e36, e37, e38, e39, e40, e41, e42, e43, e44, e45, e46, e47, e48, e49, e50, e51, e52, e53, e54, e55, e56, e57, e58, e59, e60, e61, e62, e63, List.length_eq_zero_iff.1 h]⟩

theorem checkF {P : Program} (hP : P = Tryd.prog) (R : RO) {hp : List (Nat × HB)} {nx : Nat} (fr : List Row) {K' : RO → List (Nat × HB) → Nat → List Row → SV → Prop} (K : List Int) (hK : RI R .u32 (some ⟨3, 0, none⟩) 64 K) (D : Addr) (zs : List Value) (bs : List Int) (hd : Dg K bs zs) (hN : bs.length ≤ 1099511627000)
    (hg : ∀ (zs' : List Value) (r : Value) (s' : S8) (buf' : List Int) (r' m' : Int), buf'.length = 64 → zs' = dz s' buf' r' m' → r = .agg (ints .u8 (sha K bs)).toArray → K' R hp nx (⟨some D, 75, 75, 92, 1, zs'⟩ :: fr) (.v r)) :
    CallP P 83 [.v (.pointer (some D))] R hp nx (⟨some D, 75, 75, 92, 1, zs⟩ :: fr) K' :=
  CallP.frame (vs := [.pointer (some D)]) (rs := [⟨some D, 75, 75, 92, 1, zs⟩]) (fr := fr) (checkC hP R K hK D zs bs hd hN (K' := fun R' _ _ rs' r => R' = R ∧ ∃ (x y : Row) (zs' : List Value) (v : Value) (s' : S8) (buf' : List Int) (r' m' : Int), buf'.length = 64 ∧ zs' = dz s' buf' r' m' ∧ v = .agg (ints .u8 (sha K bs)).toArray ∧ r = .v v ∧ rs' = [x, ⟨some D, 75, 75, 92, 1, zs'⟩, y])
    (fun x y zs' r hp nx s' buf' r' m' h1 h2 h3 => ⟨rfl, x, y, zs', r, s', buf', r', m', h1, h2, h3, rfl, rfl⟩)) rfl (.refl _) fun R' hp' nx' rs' r _ ⟨h1, x, y, zs', v, s', buf', r', m', h2, h3, h4, h5, h6⟩ => by
    subst h1 h5 h6
    exact ⟨.v v, [⟨some D, 75, 75, 92, 1, zs'⟩], [x, y], _, fun _ _ => rfl, trivial, (List.Perm.swap ..).trans (show List.Perm ([⟨some D, 75, 75, 92, 1, zs'⟩] ++ [x, y]) ([x, y] ++ [⟨some D, 75, 75, 92, 1, zs'⟩]) from List.perm_append_comm), .refl _, hg zs' v s' buf' r' m' h2 h3 h4⟩

set_option maxRecDepth 100000 in
set_option maxHeartbeats 8000000 in
theorem sumC {P : Program} (hP : P = Tryd.prog) (R : RO) (K : List Int) (hK : RI R .u32 (some ⟨3, 0, none⟩) 64 K) (D : Addr) (zs : List Value) (bs : List Int) (hd : Dg K bs zs) (hN : bs.length ≤ 1099511627000)
    (A : Addr) (nA cA e k : Nat) (xs : List Value) (hk : 32 ≤ k) (hx : 32 ≤ xs.length)
    {K' : RO → List (Nat × HB) → Nat → List Row → SV → Prop}
    (hg : ∀ (x : Row) (xs' : List Value) hp nx n, n = 32 → xs' = ints .u8 (sha K bs) ++ xs.drop 32 → K' R hp nx [x, ⟨some D, 75, 75, 92, 1, zs⟩, ⟨some A, nA, cA, e, 1, xs'⟩] (.v (.slice (some A) n k))) :
    CallP P 80 [.v (.pointer (some D)), .v (.slice (some A) 0 k)] R [] 0 [⟨some D, 75, 75, 92, 1, zs⟩, ⟨some A, nA, cA, e, 1, xs⟩] K' := by
  subst hP
  refine callP_of_vc (fz := [505, 719]) Tryd.func80 rfl (by decide) (Nat.le_of_ble_eq_true rfl) ok80 (by simp [labL, lab]) ?_
  rintro P ⟨bin, cmp, cnv, neg, com, bnot, beq, ofN, toN, at_, sub_, scmp, cat, sget, ssz, ssub, elem, fld_⟩ hP hA
  conv => cbv
  refine callP_in (fz := [1000 + 85, 1000 + 86]) hP hA Tryd.func82 rfl (by decide) rfl ok82 (by simp [labL, lab]) ?_
  conv => cbv
  refine gen_extern (e := fun _ => pure (.int .u8 0)) (.v (.int .u8 0)) rfl rfl rfl (by rw [hP]; exact Tryd.func85) (by kernel_rfl) (by kernel_rfl) (by kernel_rfl) (by kernel_rfl) (fun ρ w _ => rfl) trivial ?_
  conv => cbv
  refine br_t (by rw [cmp_eql hA]; rfl) ?_
  conv => cbv
  refine gen_extern (e := Extern.CryptoHooks.nothing) (.v (.tuple #[])) rfl rfl rfl (by rw [hP]; exact Tryd.func86) (by kernel_rfl) (by kernel_rfl) (by kernel_rfl) (by kernel_rfl) (fun ρ w _ => rfl) trivial ?_
  conv => cbv
  have hd0 := hd
  obtain ⟨s, buf, q, r, hz, hb, -, -, -, -, -⟩ := hd0
  obtain ⟨ri, hri⟩ : ∃ ri : Int, ri = r := ⟨_, rfl⟩
  obtain ⟨mi, hmi⟩ : ∃ mi : Int, mi = ((bs.length : Nat) : Int) := ⟨_, rfl⟩
  rw [← hri, ← hmi] at hz
  obtain ⟨b0, b1, b2, b3, b4, b5, b6, b7, b8, b9, b10, b11, b12, b13, b14, b15, b16, b17, b18, b19, b20, b21, b22, b23, b24, b25, b26, b27, b28, b29, b30, b31, b32, b33, b34, b35, b36, b37, b38, b39, b40, b41, b42, b43, b44, b45, b46, b47, b48, b49, b50, b51, b52, b53, b54, b55, b56, b57, b58, b59, b60, b61, b62, b63, hbuf⟩ := list64 buf hb
  obtain ⟨sa, sb, sc, sd, se, sf, sg, sh⟩ := s
  have hz2 : zs = [.int .u32 sa, .int .u32 sb, .int .u32 sc, .int .u32 sd, .int .u32 se, .int .u32 sf, .int .u32 sg, .int .u32 sh, .int .u8 b0, .int .u8 b1, .int .u8 b2, .int .u8 b3, .int .u8 b4, .int .u8 b5, .int .u8 b6, .int .u8 b7, .int .u8 b8, .int .u8 b9, .int .u8 b10, .int .u8 b11, .int .u8 b12, .int .u8 b13, .int .u8 b14, .int .u8 b15, .int .u8 b16, .int .u8 b17, .int .u8 b18, .int .u8 b19, .int .u8 b20, .int .u8 b21, .int .u8 b22, .int .u8 b23, .int .u8 b24, .int .u8 b25, .int .u8 b26, .int .u8 b27, .int .u8 b28, .int .u8 b29, .int .u8 b30, .int .u8 b31, .int .u8 b32, .int .u8 b33, .int .u8 b34, .int .u8 b35, .int .u8 b36, .int .u8 b37, .int .u8 b38, .int .u8 b39, .int .u8 b40, .int .u8 b41, .int .u8 b42, .int .u8 b43, .int .u8 b44, .int .u8 b45, .int .u8 b46, .int .u8 b47, .int .u8 b48, .int .u8 b49, .int .u8 b50, .int .u8 b51, .int .u8 b52, .int .u8 b53, .int .u8 b54, .int .u8 b55, .int .u8 b56, .int .u8 b57, .int .u8 b58, .int .u8 b59, .int .u8 b60, .int .u8 b61, .int .u8 b62, .int .u8 b63, .int .i64 ri, .int .u64 mi, .bool false] := by rw [hz, hbuf]; rfl
  refine ⟨.agg ([.int .u32 sa, .int .u32 sb, .int .u32 sc, .int .u32 sd, .int .u32 se, .int .u32 sf, .int .u32 sg, .int .u32 sh, .int .u8 b0, .int .u8 b1, .int .u8 b2, .int .u8 b3, .int .u8 b4, .int .u8 b5, .int .u8 b6, .int .u8 b7, .int .u8 b8, .int .u8 b9, .int .u8 b10, .int .u8 b11, .int .u8 b12, .int .u8 b13, .int .u8 b14, .int .u8 b15, .int .u8 b16, .int .u8 b17, .int .u8 b18, .int .u8 b19, .int .u8 b20, .int .u8 b21, .int .u8 b22, .int .u8 b23, .int .u8 b24, .int .u8 b25, .int .u8 b26, .int .u8 b27, .int .u8 b28, .int .u8 b29, .int .u8 b30, .int .u8 b31, .int .u8 b32, .int .u8 b33, .int .u8 b34, .int .u8 b35, .int .u8 b36, .int .u8 b37, .int .u8 b38, .int .u8 b39, .int .u8 b40, .int .u8 b41, .int .u8 b42, .int .u8 b43, .int .u8 b44, .int .u8 b45, .int .u8 b46, .int .u8 b47, .int .u8 b48, .int .u8 b49, .int .u8 b50, .int .u8 b51, .int .u8 b52, .int .u8 b53, .int .u8 b54, .int .u8 b55, .int .u8 b56, .int .u8 b57, .int .u8 b58, .int .u8 b59, .int .u8 b60, .int .u8 b61, .int .u8 b62, .int .u8 b63, .int .i64 ri, .int .u64 mi, .bool false] : List Value).toArray, ⟨[.int .u32 sa, .int .u32 sb, .int .u32 sc, .int .u32 sd, .int .u32 se, .int .u32 sf, .int .u32 sg, .int .u32 sh, .int .u8 b0, .int .u8 b1, .int .u8 b2, .int .u8 b3, .int .u8 b4, .int .u8 b5, .int .u8 b6, .int .u8 b7, .int .u8 b8, .int .u8 b9, .int .u8 b10, .int .u8 b11, .int .u8 b12, .int .u8 b13, .int .u8 b14, .int .u8 b15, .int .u8 b16, .int .u8 b17, .int .u8 b18, .int .u8 b19, .int .u8 b20, .int .u8 b21, .int .u8 b22, .int .u8 b23, .int .u8 b24, .int .u8 b25, .int .u8 b26, .int .u8 b27, .int .u8 b28, .int .u8 b29, .int .u8 b30, .int .u8 b31, .int .u8 b32, .int .u8 b33, .int .u8 b34, .int .u8 b35, .int .u8 b36, .int .u8 b37, .int .u8 b38, .int .u8 b39, .int .u8 b40, .int .u8 b41, .int .u8 b42, .int .u8 b43, .int .u8 b44, .int .u8 b45, .int .u8 b46, .int .u8 b47, .int .u8 b48, .int .u8 b49, .int .u8 b50, .int .u8 b51, .int .u8 b52, .int .u8 b53, .int .u8 b54, .int .u8 b55, .int .u8 b56, .int .u8 b57, .int .u8 b58, .int .u8 b59, .int .u8 b60, .int .u8 b61, .int .u8 b62, .int .u8 b63, .int .i64 ri, .int .u64 mi, .bool false], rfl, rfl, fun i v hv => .inr ⟨_, List.mem_cons_self .., D, i, rfl, rfl, by show zs[i]? = some v; rw [hz2]; exact hv⟩⟩, ?_⟩
  conv => cbv
  refine ⟨_, rfl, by decide, ?_⟩
  intro E n75 z0 hn75 hz0
  obtain rfl : n75 = 75 := hn75
  conv => cbv
  refine ⟨0, _, E, 0, rfl, rfl, by simp [Addr.add], by show 0 + 75 ≤ z0.length; rw [hz0]; decide, ?_⟩
  intro zz hzz
  obtain rfl : zs = zz := by rw [hzz, hz2, hz0]; rfl
  conv => cbv
  refine checkF hP R _ K hK E zs bs hd hN ?_
  intro zc rv s' buf' r' m' hb' hzc hrv
  obtain ⟨v0, v1, v2, v3, v4, v5, v6, v7, v8, v9, v10, v11, v12, v13, v14, v15, v16, v17, v18, v19, v20, v21, v22, v23, v24, v25, v26, v27, v28, v29, v30, v31, hsl⟩ := list32 (sha K bs) (sha_len K bs)
  have hrv : rv = .agg #[.int .u8 v0, .int .u8 v1, .int .u8 v2, .int .u8 v3, .int .u8 v4, .int .u8 v5, .int .u8 v6, .int .u8 v7, .int .u8 v8, .int .u8 v9, .int .u8 v10, .int .u8 v11, .int .u8 v12, .int .u8 v13, .int .u8 v14, .int .u8 v15, .int .u8 v16, .int .u8 v17, .int .u8 v18, .int .u8 v19, .int .u8 v20, .int .u8 v21, .int .u8 v22, .int .u8 v23, .int .u8 v24, .int .u8 v25, .int .u8 v26, .int .u8 v27, .int .u8 v28, .int .u8 v29, .int .u8 v30, .int .u8 v31] := by rw [hrv, hsl]; rfl
  subst hrv
  conv => cbv
  refine ld_dg (fld__is hA) 74 (v := .bool false) (by rw [hzc]; exact dz_74 s' buf' hb' r' m') ?_
  conv => cbv
  obtain ⟨j5, d5, hj5, -, -, hj5s, -, -, -⟩ := tyOf_all ty5
  refine gen_app_room (j := j5) rfl rfl rfl rfl rfl (by rw [hP]; exact Tryd.underlying22) (by rw [hP]; exact Tryd.underlying22) (by rw [hP]; exact hj5) hj5s
    (.own _ 0 32 32 _ _ rfl rfl rfl (by intro v hv; simp only [List.mem_cons, List.not_mem_nil, or_false] at hv; rcases hv with rfl | rfl | rfl | rfl | rfl | rfl | rfl | rfl | rfl | rfl | rfl | rfl | rfl | rfl | rfl | rfl | rfl | rfl | rfl | rfl | rfl | rfl | rfl | rfl | rfl | rfl | rfl | rfl | rfl | rfl | rfl | rfl <;> rfl)) 2 _ rfl rfl rfl (by omega) (by show 0 + 32 ≤ xs.length; omega) ?_
  intro xs' n' hxs' hn'
  conv => cbv
  refine hg _ _ _ _ _ hn' ?_
  rw [hxs', hsl]
  rfl
end Go.Proofs.YtepfbdfbfimefaaDoor.Sha
end
section
namespace Go.Proofs.YtepfbdfbfimefaaDoor.Tysk
open Go Go.Se Go.Proofs

/-- uint8 -/
def y5 : Ty := ⟨.int .u8, 1, false, .int .u8 0, 1⟩
theorem ty5 : tyOf Tryd.prog 5 = some y5 := by kernel_rfl
/-- [32]uint8 -/
def y39 : Ty := ⟨.arr 32 5, 32, true, .agg #[.int .u8 0, .int .u8 0, .int .u8 0, .int .u8 0, .int .u8 0, .int .u8 0, .int .u8 0, .int .u8 0, .int .u8 0, .int .u8 0, .int .u8 0, .int .u8 0, .int .u8 0, .int .u8 0, .int .u8 0, .int .u8 0, .int .u8 0, .int .u8 0, .int .u8 0, .int .u8 0, .int .u8 0, .int .u8 0, .int .u8 0, .int .u8 0, .int .u8 0, .int .u8 0, .int .u8 0, .int .u8 0, .int .u8 0, .int .u8 0, .int .u8 0, .int .u8 0], 32⟩
theorem ty39 : tyOf Tryd.prog 39 = some y39 := by kernel_rfl

/-- function 34: crypto/sha256.Sum256 -/
def tys34 : Nat → Option Ty := fun t => find [(39, y39), (5, y5)] t
theorem ok34 : TysOk Tryd.prog tys34 := tysOk_of ⟨ty39, ty5, trivial⟩
end Go.Proofs.YtepfbdfbfimefaaDoor.Tysk
end
section
set_option linter.unusedSimpArgs false
set_option linter.unusedVariables false
namespace Go.Proofs.YtepfbdfbfimefaaDoor.Sha
open Go Go.Se Go.Proofs Go.Proofs.YtepfbdfbfimefaaDoor.Tysk

theorem sumF {P : Program} (hP : P = Tryd.prog) (R : RO) {hp : List (Nat × HB)} {nx : Nat} (fr : List Row) {K' : RO → List (Nat × HB) → Nat → List Row → SV → Prop} (K : List Int) (hK : RI R .u32 (some ⟨3, 0, none⟩) 64 K) (D : Addr) (zs : List Value) (bs : List Int) (hd : Dg K bs zs) (hN : bs.length ≤ 1099511627000)
    (A : Addr) (nA cA e k : Nat) (xs : List Value) (hk : 32 ≤ k) (hx : 32 ≤ xs.length)
    (hg : ∀ (xs' : List Value) n, n = 32 → xs' = ints .u8 (sha K bs) ++ xs.drop 32 → K' R hp nx (⟨some D, 75, 75, 92, 1, zs⟩ :: ⟨some A, nA, cA, e, 1, xs'⟩ :: fr) (.v (.slice (some A) n k))) :
    CallP P 80 [.v (.pointer (some D)), .v (.slice (some A) 0 k)] R hp nx (⟨some D, 75, 75, 92, 1, zs⟩ :: ⟨some A, nA, cA, e, 1, xs⟩ :: fr) K' :=
  CallP.frame (vs := [.pointer (some D), .slice (some A) 0 k]) (rs := [⟨some D, 75, 75, 92, 1, zs⟩, ⟨some A, nA, cA, e, 1, xs⟩]) (fr := fr) (sumC hP R K hK D zs bs hd hN A nA cA e k xs hk hx (K' := fun R' _ _ rs' r => R' = R ∧ ∃ (x : Row) (xs' : List Value) (n : Nat), n = 32 ∧ xs' = ints .u8 (sha K bs) ++ xs.drop 32 ∧ rs' = [x, ⟨some D, 75, 75, 92, 1, zs⟩, ⟨some A, nA, cA, e, 1, xs'⟩] ∧ r = .v (.slice (some A) n k))
    (fun x xs' hp nx n h0 h1 => ⟨rfl, x, xs', n, h0, h1, rfl, rfl⟩)) rfl (.refl _) fun R' hp' nx' rs' r _ ⟨h1, x, xs', n, h0, h2, h3, h4⟩ => by
    subst h1 h3 h4
    exact ⟨.v _, [⟨some D, 75, 75, 92, 1, zs⟩, ⟨some A, nA, cA, e, 1, xs'⟩], [x], _, fun _ _ => rfl, trivial, .refl _, .refl _, hg xs' n h0 h2⟩

theorem methW {P : Program} (hP : P = Tryd.prog) : Meth P 84 "Write" 81 := by
  subst hP
  exact meth_ptr (by kernel_rfl) Tryd.underlying84
theorem methS {P : Program} (hP : P = Tryd.prog) : Meth P 84 "Sum" 80 := by
  subst hP
  exact meth_ptr (by kernel_rfl) Tryd.underlying84

theorem RI.kc {R : RO} {rs : List Row} {a : Option Addr} {n : Nat} {xs : List Int} (h : RI R .u8 a n xs) {p : Addr} (ha : n ≠ 0 → a = some p) (j : Nat) (hj : j < n) : KCell R rs (p.add j) (.int .u8 (xs.getD j 0)) := by
  have h1 := (h.2 (j : Int) (by omega) (by omega)).2
  rw [ha (by omega), elem_at rfl p j j rfl, Int.toNat_natCast] at h1
  exact .inl h1

theorem RI.some {R : RO} {k : IntKind} {a : Option Addr} {n : Nat} {xs : List Int} (h : RI R k a n xs) : ∃ p, n ≠ 0 → a = some p := by
  by_cases hn : n = 0
  · exact ⟨⟨0, 0, none⟩, fun h => absurd hn h⟩
  · have h1 := (h.2 0 (by omega) (by omega)).1
    obtain ⟨p, hp⟩ := Option.isSome_iff_exists.1 h1
    exact ⟨p, fun _ => hp⟩

set_option maxRecDepth 100000 in
set_option maxHeartbeats 8000000 in
/-- The hash of some bytes. -/
theorem sum256P {P : Program} (hP : P = Tryd.prog) (R : RO) (K : List Int) (hK : RI R .u32 (some ⟨3, 0, none⟩) 64 K) (a : Option Addr) (n c : Nat) (xs : List Int) (h : RI R .u8 a n xs) (hc : n ≤ c) (hn : n ≤ 1099511627000) :
    RetP P 34 [.slice a n c] R fun _ r => ∃ v0 v1 v2 v3 v4 v5 v6 v7 v8 v9 v10 v11 v12 v13 v14 v15 v16 v17 v18 v19 v20 v21 v22 v23 v24 v25 v26 v27 v28 v29 v30 v31, r = .agg #[.int .u8 v0, .int .u8 v1, .int .u8 v2, .int .u8 v3, .int .u8 v4, .int .u8 v5, .int .u8 v6, .int .u8 v7, .int .u8 v8, .int .u8 v9, .int .u8 v10, .int .u8 v11, .int .u8 v12, .int .u8 v13, .int .u8 v14, .int .u8 v15, .int .u8 v16, .int .u8 v17, .int .u8 v18, .int .u8 v19, .int .u8 v20, .int .u8 v21, .int .u8 v22, .int .u8 v23, .int .u8 v24, .int .u8 v25, .int .u8 v26, .int .u8 v27, .int .u8 v28, .int .u8 v29, .int .u8 v30, .int .u8 v31] ∧ sha K xs = [v0, v1, v2, v3, v4, v5, v6, v7, v8, v9, v10, v11, v12, v13, v14, v15, v16, v17, v18, v19, v20, v21, v22, v23, v24, v25, v26, v27, v28, v29, v30, v31] := by
  subst hP
  have hl := h.len
  obtain ⟨p, hp⟩ := RI.some h
  refine retP_vc (fz := [504]) Tryd.func34 rfl (by decide) rfl ok34 ?_
  intro P bin cmp cnv neg com bnot beq ofN toN at_ sub_ scmp cat sget ssz ssub elem fld_ hP hA
  conv => cbv
  refine newF hP R _ K ?_
  intro D z0 hd0
  conv => cbv
  refine gen_invoke (T := 84) (f := 81) (x := .v (.pointer (some D))) (vs := [.v (.slice a n c)]) rfl rfl rfl rfl rfl (methW hP) ?_
  refine writeF hP R _ K hK D z0 [] xs hd0 a p n c hc hl.symm (by simp; omega) hp (fun j hj => RI.kc h hp j hj) ?_
  intro z1 hd1
  rw [List.nil_append] at hd1
  conv => cbv
  refine ⟨_, rfl, by decide, ?_⟩
  intro A n32 g0 hn32 hg0
  obtain rfl : n32 = 32 := hn32
  have hgl : g0.length = 32 := by rw [hg0]; rfl
  conv => cbv
  refine ⟨[0, 1, 2, 3, 4, 5], [5], mix hP, by decide +kernel, ?_⟩
  conv => cbv
  refine raw_slice_arr (n := 32) 0 0 rfl rfl (.inl ⟨rfl, rfl⟩) (.inr ⟨_, _, _, rfl, rfl, rfl⟩) (by decide) (by decide) (by rw [hP]; exact ty39) rfl (by rw [hP]; exact ty5) rfl ?_
  intro a1 m1 c1 hm1 hc1 ha1
  obtain rfl : A = a1 := by rw [ha1 (by decide)]; simp [Addr.add]
  obtain rfl : m1 = 0 := hm1
  obtain rfl : c1 = 32 := hc1
  conv => cbv
  refine nilP_ptr (f := 80) (T := 84) (m := "Sum") rfl rfl (fun ρ => ⟨D, rfl⟩) (by rw [hP]; kernel_rfl) ?_
  conv => cbv
  refine gen_invoke (T := 84) (f := 80) (x := .v (.pointer (some D))) (vs := [.v (.slice (some A) 0 32)]) rfl rfl rfl rfl rfl (methS hP) ?_
  refine CallP.perm (rs := [⟨some D, 75, 75, 92, 1, z1⟩, ⟨some A, 32, 32, 39, 1, g0⟩]) (.swap ..) ?_
  refine sumF hP R _ K hK D z1 xs hd1 (by omega) A 32 32 39 32 g0 (by omega) (by omega) ?_
  intro g1 m2 hm2 hg1
  obtain ⟨v0, v1, v2, v3, v4, v5, v6, v7, v8, v9, v10, v11, v12, v13, v14, v15, v16, v17, v18, v19, v20, v21, v22, v23, v24, v25, v26, v27, v28, v29, v30, v31, hsl⟩ := list32 (sha K xs) (sha_len K xs)
  have hg1 : g1 = ints .u8 [v0, v1, v2, v3, v4, v5, v6, v7, v8, v9, v10, v11, v12, v13, v14, v15, v16, v17, v18, v19, v20, v21, v22, v23, v24, v25, v26, v27, v28, v29, v30, v31] := by rw [hg1, hsl, List.drop_eq_nil_of_le (by omega), List.append_nil]
  subst hg1
  conv => cbv
  refine ⟨_, ⟨ints .u8 [v0, v1, v2, v3, v4, v5, v6, v7, v8, v9, v10, v11, v12, v13, v14, v15, v16, v17, v18, v19, v20, v21, v22, v23, v24, v25, v26, v27, v28, v29, v30, v31], rfl, rfl, fun i v hv => .inr ⟨_, List.mem_cons_of_mem _ (List.mem_cons_self ..), A, i, rfl, rfl, hv⟩⟩, ?_⟩
  conv => cbv
  intro ρ R'' _ _ _
  exact ⟨v0, v1, v2, v3, v4, v5, v6, v7, v8, v9, v10, v11, v12, v13, v14, v15, v16, v17, v18, v19, v20, v21, v22, v23, v24, v25, v26, v27, v28, v29, v30, v31, rfl, hsl⟩
end Go.Proofs.YtepfbdfbfimefaaDoor.Sha
end
section
set_option linter.unusedSimpArgs false
set_option linter.unusedVariables false
namespace Go.Se
open Go

theorem src_first {P : Program} {s : St} {ρ : Nat → Nat} {w : World} (hr : HRel s.R s.hp s.nx s.rw_ ρ w) {sz m : Nat} {y : SV} {news : List Value} (hsrc : SrcK s sz y m news) :
    (∀ n, n ≤ m → (Builtin.firstCells sz n (val ρ y)).run P w = .ok (news.take (n * sz)).toArray w) ∧ (Builtin.lenOf (val ρ y)).run P w = .ok m w ∧ (∀ v ∈ news, v.oneCell' = true) ∧ news.length = m * sz := by
  refine ⟨fun n hn => ?_, by cases hsrc <;> rfl, ?_, ?_⟩
  · have key : ∀ (ad : Addr) (c : Nat), (∀ j u, news[j]? = some u → w.cell? (ad.add j) = some u) → news.length = m * sz →
        (Builtin.firstCells sz n (.slice (some ad) m c)).run P w = .ok (news.take (n * sz)).toArray w := fun ad c hc hl => by
      have hle : n * sz ≤ m * sz := Nat.mul_le_mul_right _ hn
      exact run_firstCells_some w sz n ad m c _ (by rw [List.length_take, hl]; omega) (fun j u hu => by
        rw [List.getElem?_take] at hu
        split at hu
        · exact hc j u hu
        · cases hu)
    cases hsrc with
    | nil c =>
      obtain rfl : n = 0 := by omega
      simp only [val]
      simpa using run_firstCells_none (P := P) w sz 0 0 c
    | raw ad m c news hl hc h1 => exact key ad c (fun j u hu => kcell_sound hr (hc j u hu)) hl
    | own l o m c b news hb hn2 hl h1 =>
      have hblk := hr.blk l b hb
      refine key ⟨ρ l, o, none⟩ c (fun j u hu => ?_) hl
      rw [cell_add, cell_of hblk]
      rw [← rawL_val (ρ := ρ) hn2] at hu
      rw [valL_map, List.getElem?_map, List.getElem?_take] at hu
      have hj : j < m * sz := by
        rcases Nat.lt_or_ge j (m * sz) with h | h
        · exact h
        · rw [if_neg (by omega)] at hu; simp at hu
      rw [if_pos hj, List.getElem?_drop] at hu
      simpa [valL_map] using hu
    | str x h1 =>
      rw [h1]
      simp only [val, Builtin.firstCells, Sem.run_pure, byteCells, Nat.mul_one]
      congr 1
      apply Array.ext'
      simp [List.map_take, ByteArray.extract, ByteArray.copySlice]
  · cases hsrc with
    | nil c => simp
    | raw ad m c news hl hc h1 => exact h1
    | own l o m c b news hb hn2 hl h1 => exact h1
    | str x h1 =>
      intro u hu
      obtain ⟨_, _, rfl⟩ := List.mem_map.1 hu
      rfl
  · cases hsrc with
    | nil c => simp
    | raw ad m c news hl hc h1 => exact hl
    | own l o m c b news hb hn2 hl h1 => exact hl
    | str x h1 => rw [h1, byteCells_length, Nat.mul_one]

theorem valL_raws (ρ : Nat → Nat) (vs : List Value) : valL ρ (vs.map .v) = vs := valL_raw ρ vs

theorem gen_copy_own {C : Cx} {s : St} {o : Oper} {c : Call} {t e l off n k m : Nat} {y : SV} {news : List Value} {b : HB} {j : TypeInfo} {K : RO → List (Nat × HB) → Nat → List Row → SV → Prop} (hA : C.A = .real) (ho : o.op = .call c) (hc : c.callee = .builtin .copy)
    (ha : evs s c.args.toList = some [.se l off n k, y]) (hat : c.argTypes[0]? = some t) (ht : C.P.underlying t = some (.slice e)) (he : C.P.info? e = some j) (hj : j.size = 1) (hs : SrcK s 1 y m news) (hb : find s.hp l = some b) (hlen : off + min m n ≤ b.cs.length)
    (hK : ∀ q, q = min m n → K s.R (setHp s.hp l { b with cs := putAt b.cs off ((news.take q).map .v) }) s.nx s.rw_ (natI C q)) : GenP C s o K := by
  refine ⟨fun ρ w hw ev hev => ?_⟩
  have e2 := evs_arr hev ha
  obtain ⟨hf, hl, h1, hnl⟩ := src_first (P := C.P) hw hs
  rw [Nat.mul_one] at hnl
  have hblk := hw.blk l b hb
  have htl : (news.take (min m n)).length = min m n := by rw [List.length_take, hnl]; omega
  obtain ⟨w', hrun, hw', hob⟩ := run_storeCells (P := C.P) (news.take (min m n)) 0 off (valL ρ b.cs) w hblk (un0 _) (by rw [htl, valL_map, List.length_map]; omega) (fun v hv => oneV_one (h1 v (List.mem_of_mem_take hv)))
  have hcp : ∀ ty xs, Builtin.copy_ c.argTypes ty xs = Builtin.copy_ #[t] ty xs := by
    intro ty xs
    simp only [Builtin.copy_, hat]
    rfl
  have hex : (execOp ev o).run C.P w = .ok (.value (val ρ (natI C (min m n)))) w' := by
    unfold execOp
    rw [ho]
    simp only [resolve, hc, bind, pure, Sem.bind, invoke, builtin, e2, valL, hcp]
    have h0 : (Builtin.copy_ #[t] o.type #[.slice (some ⟨ρ l, off, none⟩) n k, val ρ y]).run C.P w = .ok (goInt (min m n : Nat)) w' := by
      simp only [Builtin.copy_, bind, List.getElem?_toArray, List.getElem?_cons_zero, List.getElem?_cons_succ]
      rw [run_bind_pure (run_und ht)]
      simp only
      have h2 := hf (min m n) (Nat.min_le_left _ _)
      rw [Nat.mul_one] at h2
      rw [run_bind_pure hl, run_bind_pure (run_size he), hj, show Nat.min m n = min m n from rfl, run_bind_pure h2]
      simp only
      rw [run_bind_pure hrun]
      rfl
    rw [show val ρ (.se l off n k) = .slice (some ⟨ρ l, off, none⟩) n k from rfl, run_bind_pure h0]
    simp [natI, val, hA, Ar.real, goInt, Sem.run]
  rw [hex]
  refine post_store (b' := { b with cs := putAt b.cs off ((news.take (min m n)).map .v) }) hw hb rfl (labL_putAt _ _ _ (hw.wf l b hb).2 ?_) ?_ hob trivial (hK _ rfl)
  · rw [labL_iff]
    intro x hx
    obtain ⟨v, -, rfl⟩ := List.mem_map.1 hx
    trivial
  · rw [hw', valL_putAt, valL_raw, Nat.add_zero]
end Go.Se
end
section
namespace Go.Proofs.YtepfbdfbfimefaaDoor.Tyra
open Go Go.Se Go.Proofs

/-- int -/
def y3 : Ty := ⟨.int .i64, 1, false, .int .i64 0, 8⟩
theorem ty3 : tyOf Tryd.prog 3 = some y3 := by kernel_rfl
/-- uint8 -/
def y5 : Ty := ⟨.int .u8, 1, false, .int .u8 0, 1⟩
theorem ty5 : tyOf Tryd.prog 5 = some y5 := by kernel_rfl
/-- []uint8 -/
def y22 : Ty := ⟨.slc 5, 1, false, .slice none 0 0, 24⟩
theorem ty22 : tyOf Tryd.prog 22 = some y22 := by kernel_rfl
/-- [32]uint8 -/
def y39 : Ty := ⟨.arr 32 5, 32, true, .agg #[.int .u8 0, .int .u8 0, .int .u8 0, .int .u8 0, .int .u8 0, .int .u8 0, .int .u8 0, .int .u8 0, .int .u8 0, .int .u8 0, .int .u8 0, .int .u8 0, .int .u8 0, .int .u8 0, .int .u8 0, .int .u8 0, .int .u8 0, .int .u8 0, .int .u8 0, .int .u8 0, .int .u8 0, .int .u8 0, .int .u8 0, .int .u8 0, .int .u8 0, .int .u8 0, .int .u8 0, .int .u8 0, .int .u8 0, .int .u8 0, .int .u8 0, .int .u8 0], 32⟩
theorem ty39 : tyOf Tryd.prog 39 = some y39 := by kernel_rfl
/-- chainhash.Hash -/
def y40 : Ty := ⟨.arr 32 5, 32, true, .agg #[.int .u8 0, .int .u8 0, .int .u8 0, .int .u8 0, .int .u8 0, .int .u8 0, .int .u8 0, .int .u8 0, .int .u8 0, .int .u8 0, .int .u8 0, .int .u8 0, .int .u8 0, .int .u8 0, .int .u8 0, .int .u8 0, .int .u8 0, .int .u8 0, .int .u8 0, .int .u8 0, .int .u8 0, .int .u8 0, .int .u8 0, .int .u8 0, .int .u8 0, .int .u8 0, .int .u8 0, .int .u8 0, .int .u8 0, .int .u8 0, .int .u8 0, .int .u8 0], 32⟩
theorem ty40 : tyOf Tryd.prog 40 = some y40 := by kernel_rfl
/-- [4]uint8 -/
def y66 : Ty := ⟨.arr 4 5, 4, true, .agg #[.int .u8 0, .int .u8 0, .int .u8 0, .int .u8 0], 4⟩
theorem ty66 : tyOf Tryd.prog 66 = some y66 := by kernel_rfl

/-- function 7: pub-mintmark/laws.same -/
def tys7 : Nat → Option Ty := fun t => find [(22, y22), (5, y5), (3, y3)] t
theorem ok7 : TysOk Tryd.prog tys7 := tysOk_of ⟨ty22, ty5, ty3, trivial⟩

/-- function 10: pub-mintmark/impl.Hash -/
def tys10 : Nat → Option Ty := fun t => find [(39, y39), (5, y5)] t
theorem ok10 : TysOk Tryd.prog tys10 := tysOk_of ⟨ty39, ty5, trivial⟩

/-- function 15: pub-mintmark/impl.copied -/
def tys15 : Nat → Option Ty := fun t => find [(22, y22), (5, y5)] t
theorem ok15 : TysOk Tryd.prog tys15 := tysOk_of ⟨ty22, ty5, trivial⟩

/-- function 18: pub-mintmark/spec.sameBytes -/
def tys18 : Nat → Option Ty := fun t => find [(22, y22), (5, y5), (3, y3)] t
theorem ok18 : TysOk Tryd.prog tys18 := tysOk_of ⟨ty22, ty5, ty3, trivial⟩

/-- function 19: pub-mintmark/pub/btcdchainhash.DoubleHashH -/
def tys19 : Nat → Option Ty := fun t => find [(40, y40), (5, y5), (39, y39)] t
theorem ok19 : TysOk Tryd.prog tys19 := tysOk_of ⟨ty40, ty5, ty39, trivial⟩

/-- function 35: pub-mintmark/pub/btcdaddress/base58.checksum -/
def tys35 : Nat → Option Ty := fun t => find [(66, y66), (5, y5), (39, y39), (22, y22)] t
theorem ok35 : TysOk Tryd.prog tys35 := tysOk_of ⟨ty66, ty5, ty39, ty22, trivial⟩
end Go.Proofs.YtepfbdfbfimefaaDoor.Tyra
end
