/- Strings as lists of bytes; the string of a builder. -/
import Derived.Test.YthhlbpahndfdhaaSu
set_option linter.unusedSimpArgs false
set_option linter.unusedVariables false
namespace Go.Se
open Go

/-- A string's bytes. -/
def SB (b : ByteArray) (xs : List Int) : Prop := byteCells b = ints .u8 xs

theorem SB.size {b : ByteArray} {xs : List Int} (h : SB b xs) : b.size = xs.length := by
  have := congrArg List.length h
  rw [ints_len] at this
  simpa [byteCells] using this

theorem SB.app {a b : ByteArray} {xs ys : List Int} (h : SB a xs) (k : SB b ys) : SB (a ++ b) (xs ++ ys) := by
  unfold SB at *
  have e : byteCells (a ++ b) = byteCells a ++ byteCells b := by
    unfold byteCells
    rw [← List.map_append]
    congr 1
  rw [e, h, k]
  simp [ints]

theorem SB.ext {b : ByteArray} {xs : List Int} (h : SB b xs) (l m : Nat) : SB (b.extract l m) ((xs.drop l).take (m - l)) := by
  unfold SB at *
  have e : byteCells (b.extract l m) = ((byteCells b).drop l).take (m - l) := by
    unfold byteCells
    rw [← List.map_drop, ← List.map_take]
    congr 1
    rw [ByteArray.data_extract, Array.toList_extract]
  rw [e, h]
  simp [ints, List.map_drop, List.map_take]

theorem SB.inj {b : ByteArray} {xs ys : List Int} (h : SB b xs) (k : SB b ys) : xs = ys := ints_inj (h.symm.trans k)

section
variable {bin : BinOp → IntKind → Int → Int → Int} {cmp : BinOp → Int → Int → Bool} {cnv : IntKind → Int → Int} {neg : IntKind → Int → Int} {com : IntKind → Int → Int} {bnot : Bool → Bool} {beq : Bool → Bool → Bool} {ofN : Nat → Int} {toN : Int → Nat} {at_ : Nat → Nat → Nat → Nat} {sub_ : Nat → Nat → Nat} {scmp : BinOp → ByteArray → ByteArray → Bool} {cat : ByteArray → ByteArray → ByteArray} {sget : ByteArray → Int → Int} {ssz : ByteArray → Nat} {ssub : ByteArray → Nat → Nat → ByteArray} {elem : Option Addr → Int → Nat → Addr} {fld_ : Addr → Nat → Addr}
  (hA : (⟨bin, cmp, cnv, neg, com, bnot, beq, ofN, toN, at_, sub_, scmp, cat, sget, ssz, ssub, elem, fld_⟩ : Ar) = Ar.real)
include hA

theorem sb_cat {a b : ByteArray} {xs ys : List Int} (h : SB a xs) (k : SB b ys) : SB (cat a b) (xs ++ ys) := by
  rw [cat_is hA]
  exact h.app k

theorem sb_get {b : ByteArray} {xs : List Int} (h : SB b xs) {i : Int} {d : Int} (j : Nat) (hj : i = j) (hd : xs[j]? = some d) : sget b i = d := by
  rw [sget_is hA, hj]
  have h1 : (byteCells b)[j]? = some (.int .u8 d) := by rw [h]; simp [ints, hd]
  unfold byteCells at h1
  rw [List.getElem?_map, Option.map_eq_some_iff] at h1
  obtain ⟨x, hx, hxd⟩ := h1
  show ((b[((j : Int)).toNat]?).map fun b => (b.toNat : Int)).getD 0 = d
  have h2 : b[((j : Int)).toNat]? = some x := by
    rw [Int.toNat_natCast]
    rw [← hx]
    simp
    rfl
  rw [h2]
  simp only [Value.int.injEq, true_and] at hxd
  exact hxd
end

/-- Where the bytes of a slice of the call's own lie. -/
theorem gen_sd_row {C : Cx} {s : St} {o : Oper} {c : Call} {a : Addr} {n k : Nat} {K : RO → List (Nat × HB) → Nat → List Row → SV → Prop} (ho : o.op = .call c) (hc : c.callee = .builtin .unsafeSliceData) (ha : evs s c.args.toList = some [.v (.slice (some a) n k)])
    (i : Nat) (r : Row) (hr : s.rw_[i]? = some r) (hra : r.a = some a) (hrn : r.n = n) (hrk : r.cap = k) (hn : n ≠ 0) (hk : K s.R s.hp s.nx s.rw_ (.v (.pointer (some a)))) : GenP C s o K := by
  refine gen_pure (.v (.pointer (some a))) trivial (fun ρ w hw ev hev => ?_) hk
  have e2 := evs_arr hev ha
  have hcap : k ≠ 0 := by
    have h1 := hw.row r (List.mem_of_getElem? hr)
    rcases h1.2 with ⟨h2, _⟩ | ⟨g, cap, cur, h2, _, _, h3, _⟩
    · rw [Row.v, hra] at h2; cases h2
    · rw [Row.v] at h2
      injection h2 with h4 h5 h6
      omega
  unfold execOp
  rw [ho]
  simp only [resolve, hc, bind, pure, Sem.bind, invoke, builtin, e2, valL, val]
  rw [run_bind_pure (Lib.run_unsafeSliceData_row w _ _ a n k hcap)]
  rfl

theorem frz_heap (w : World) (g n : Nat) : OneBlk g w (w.freeze ⟨g, 0, none⟩ n) := by
  unfold World.freeze
  split
  · exact ⟨rfl, rfl, rfl, rfl, fun _ _ => rfl⟩
  · refine ⟨rfl, rfl, rfl, by simp, fun k hk => ?_⟩
    simp only [Array.getElem?_modify]
    rw [if_neg (fun h => hk h.symm)]

/-- The bytes of a slice of the call's own as a string: they are never written again. -/
theorem gen_ustr {C : Cx} {s : St} {o : Oper} {c : Call} {a : Addr} {ni : Int} {pt it : Nat} {K : RO → List (Nat × HB) → Nat → List Row → SV → Prop} (ho : o.op = .call c) (hc : c.callee = .builtin .unsafeString) (ha : evs s c.args.toList = some [.v (.pointer (some a)), .v (.int .i64 ni)])
    (i : Nat) (r : Row) (hr : s.rw_[i]? = some r) (hra : r.a = some a) (hsz : r.sz = 1) (hn0 : r.n ≠ 0) (hni : ni = r.n) (ht : c.argTypes = #[pt, it]) (hu : C.P.underlying pt = some (.pointer r.e)) (hcl : C.P.cellsOf r.e = 1) (hmx : r.n ≤ 9223372036854775807)
    (bs : ByteArray) (hbs : r.xs = byteCells bs) (hk : K s.R s.hp s.nx (s.rw_.eraseIdx i) (.v (.string bs))) : GenP C s o K := by
  refine ⟨fun ρ w hw ev hev => ?_⟩
  have e2 := evs_arr hev ha
  have hm := List.mem_of_getElem? hr
  have h1 := hw.row r hm
  have hln := h1.1
  rw [hsz, Nat.mul_one] at hln
  obtain ⟨g, cap, cur, hv, _, hg, hncap, hcm, hcs, hct⟩ : ∃ g cap cur, r.v = .slice (some ⟨g, 0, none⟩) r.n cap ∧ 0 ≤ g ∧ w.heap[g]? = some (.cells cur r.e (0, 0)) ∧ r.n ≤ cap ∧ cap ≤ maxLen ∧ cur.size = cap * r.sz ∧ cur.toList.take (r.n * r.sz) = r.xs := by
    rcases h1.2 with ⟨h2, _⟩ | h2
    · rw [Row.v, hra] at h2; cases h2
    · exact h2
  have hag : a = ⟨g, 0, none⟩ := by
    rw [Row.v, hra] at hv
    injection hv with hv
    injection hv
  subst hag
  rw [hsz, Nat.mul_one] at hcs hct
  have hlen : bs.data.toList.length = r.n := by rw [← hln, hbs]; simp [byteCells]
  have hblk : r.blk = some g := by rw [Row.blk, hv]; rfl
  have hrun : (execOp ev o).run C.P w = .ok (.value (.string bs)) (w.freeze ⟨g, 0, none⟩ r.n) := by
    have h5 := Lib.run_unsafeString_row (P := C.P) w pt it o.type r.e hu hcl g cur.size (by simp [World.shape?, hg]) bs.data.toList (by rw [← List.length_pos_iff]; omega) (by rw [hlen, hcs]; exact hncap) (by rw [hlen]; exact hmx) (fun j x hx => by
      have hj : j < r.n := by rw [← hlen]; exact (List.getElem?_eq_some_iff.1 hx).1
      have h6 : r.xs[j]? = some (.int .u8 x.toNat) := by rw [hbs, byteCells, List.getElem?_map, hx]; rfl
      rw [← hct, List.getElem?_take, if_pos hj] at h6
      have h7 : ((⟨g, 0, none⟩ : Addr).add j) = ⟨g, j, none⟩ := by
        unfold Addr.add
        split
        · rename_i h; rw [h]
        · simp
      rw [h7]
      simpa [World.cell?, hg] using h6)
    rw [hlen, ← hni] at h5
    unfold execOp
    rw [ho]
    simp only [resolve, hc, bind, pure, Sem.bind, invoke, builtin, e2, valL, val, ht]
    rw [run_bind_pure h5]
    rfl
  rw [hrun]
  have hob := frz_heap w g r.n
  have hsub : ∀ q ∈ s.rw_.eraseIdx i, q ∈ s.rw_ := fun q hq => (List.eraseIdx_sublist _ _).subset hq
  have hne : ∀ q ∈ s.rw_.eraseIdx i, q.blk ≠ some g := fun q hq hqg =>
    pair_erase (p := fun r r' => ∀ g, r.blk = some g → r'.blk ≠ some g) (fun a b h g h1 h2 => h g h2 h1) hw.rpair hr q hq g hqg hblk
  have hd := hw.rdis r hm g hblk
  have hsame : ∀ k, k ≠ g → (w.freeze ⟨g, 0, none⟩ r.n).heap[k]? = w.heap[k]? := hob.block
  refine ⟨s.R, s.hp, s.nx, s.rw_.eraseIdx i, ρ, .v (.string bs), fun _ _ => rfl, Nat.le_refl _, fun l a b => absurd a (by omega), fun _ _ h => h, fun b o hb => .inl hb, ?_, ?_, fun q hq g hg => .inr (.inr ⟨q, hsub q hq, hg⟩), rfl, trivial, hk⟩
  · refine ⟨fun l b hb => ?_, hw.inj, fun l hl => by rw [hob.size]; exact hw.lt l hl, fun b o hb => ?_, hw.dis, hw.wf, fun q hq => ?_, fun q hq => hw.rdis q (hsub q hq), hw.rpair.sublist (List.eraseIdx_sublist _ _)⟩
    · rw [hsame _ (hd.2 l b hb)]
      exact hw.blk l b hb
    · rw [hsame b (fun e => by rw [e, hd.1] at hb; cases hb)]
      exact hw.ro b o hb
    · have h7 := hw.row q (hsub q hq)
      refine ⟨h7.1, ?_⟩
      rcases h7.2 with h8 | ⟨g2, cap2, cur2, k1, k2, k3, k4⟩
      · exact .inl h8
      · refine .inr ⟨g2, cap2, cur2, k1, k2, ?_, k4⟩
        rw [hsame g2 (fun e => hne q hq (by rw [Row.blk, k1]; show some g2 = some g; rw [e]))]
        exact k3
  · exact ⟨hob.os, hob.tape, hob.output, Nat.le_of_eq hob.size.symm, fun k _ hS => hsame k (fun e => hS (.inr ⟨r, hm, by rw [hblk, e]⟩))⟩
end Go.Se
