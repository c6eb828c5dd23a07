/- Append in place: into the first cells of a row of the call's own, which has room. -/
/- The types that some functions name, as the evaluator wants them. Printed by a program of my own (seatgen.py). -/
/- SHA-256: numbers are put into bytes, highest first; a digest begins anew. -/
/- The types that some functions name, as the evaluator wants them. Printed by a program of my own (seatgen.py). -/
/- SHA-256: a digest begins anew; a new one. -/
/- The types that some functions name, as the evaluator wants them. Printed by a program of my own (seatgen.py). -/
/- SHA-256: the hash of what a digest has taken. -/
/- The types that some functions name, as the evaluator wants them. Printed by a program of my own (seatgen.py). -/
import Derived.Test.YtepfbdfbfimefaaDoorMTyei
import Derived.Test.YtepfbdfbfimefaaDoorSl
import Derived.Test.YtepfbdfbfimefaaDoorProg
import Derived.KernelRfl
import Derived.Test.YtepfbdfbfimefaaDoorShu
import Derived.Test.YtepfbdfbfimefaaDoorSx
section
set_option linter.unusedSimpArgs false
set_option linter.unusedVariables false
namespace Go.Se
open Go

theorem putA_mid : ∀ (vs c : List Value) (j : Nat), j + vs.length ≤ c.length → putA c j vs = c.take j ++ vs ++ c.drop (j + vs.length)
  | [], c, j, _ => by simp [putA]
  | v :: vs, c, j, h => by
    simp only [List.length_cons] at h
    rw [putA, putA_mid vs _ _ (by simp; omega)]
    have e1 : (c.set j v).take (j + 1) = c.take j ++ [v] := by
      rw [List.take_add_one]
      simp [List.take_set, show j < c.length by omega]
      rw [List.set_eq_of_length_le (by simp; omega)]
    have e2 : (c.set j v).drop (j + 1 + vs.length) = c.drop (j + (vs.length + 1)) := by
      rw [List.drop_set, if_pos (by omega), show j + 1 + vs.length = j + (vs.length + 1) by omega]
    rw [e1, e2]
    simp

theorem gen_app_room {C : Cx} {s : St} {o : Oper} {c : Call} {t tx e n k m : Nat} {S : Addr} {y : SV} {news : List Value} {j : TypeInfo} {K : RO → List (Nat × HB) → Nat → List Row → SV → Prop} (ho : o.op = .call c) (hc : c.callee = .builtin .append) (ha : evs s c.args.toList = some [.v (.slice (some S) n k), y])
    (hat : c.argTypes[0]? = some t) (hat2 : c.argTypes[1]? = some tx) (ht : C.P.underlying t = some (.slice e)) (htx : C.P.underlying tx = some (.slice e)) (he : C.P.info? e = some j) (hj : j.size = 1) (hs : SrcK s 1 y m news)
    (i : Nat) (r : Row) (hr : s.rw_[i]? = some r) (hra : r.a = some S) (hz : r.sz = 1) (hk : n + m ≤ k) (hx : n + m ≤ r.xs.length)
    (hK : ∀ zs n', zs = r.xs.take n ++ news ++ r.xs.drop (n + m) → n' = n + m → K s.R s.hp s.nx (s.rw_.set i ⟨some S, r.n, r.cap, r.e, 1, zs⟩) (.v (.slice (some S) n' k))) : GenP C s o K := by
  refine ⟨fun ρ w hw ev hev => ?_⟩
  have e2 := evs_arr hev ha
  have hm := List.mem_of_getElem? hr
  have hown := (hw.row r hm).own (by omega)
  obtain ⟨q1, q2⟩ := hown
  rw [hz, Nat.mul_one] at q1
  rcases q2 with ⟨q2, _⟩ | ⟨g, cap, cur, q2, q3, ⟨fz, q4, q5⟩, q6, q7, q8, q9⟩
  · rw [Row.v, hra] at q2; cases q2
  rw [Row.v, hra] at q2
  injection q2 with q2 _ q10
  injection q2 with q2
  subst q2
  rw [hz, Nat.mul_one] at q8 q9
  have hsrc := src_sound (P := C.P) (hs := hw) (tx := tx) (.inl ⟨_, htx⟩) hs
  have hsrc : Src C.P j.size tx (val ρ y) m news w := by rw [hj]; exact hsrc
  have hnl : news.length = m := by rw [hsrc.newsLen, hj, Nat.mul_one]
  have hcs : r.xs.length ≤ cur.size := by rw [← q9, List.length_take, Array.length_toList]; omega
  have hrun := run_append_room_src (P := C.P) w t tx o.type e j ht he g 0 n k (val ρ y) m news hsrc hk (fun i hi => by
    have : n + i < cur.size := by omega
    simp [World.cell?, q4, hj, this]) (fun i hi => by
    have h7 := q5 (n + i) (by omega)
    simp only [World.frozen?, q4, hj]
    simp
    omega)
  rw [hj, Nat.mul_one, Nat.zero_add] at hrun
  have hat : ∀ ty xs, Builtin.append_ c.argTypes ty xs = Builtin.append_ #[t, tx] ty xs := by
    intro ty xs
    simp only [Builtin.append_, hat, hat2]
    rfl
  have hex : (execOp ev o).run C.P w = .ok (.value (.slice (some ⟨g, 0, none⟩) (n + m) k)) (w.setCells g n news) := by
    unfold execOp
    rw [ho]
    simp only [resolve, hc, bind, pure, Sem.bind, invoke, builtin, e2, valL, hat]
    rw [show val ρ (.v (.slice (some ⟨g, 0, none⟩) n k)) = .slice (some ⟨g, 0, none⟩) n k from rfl, run_bind_pure hrun]
    rfl
  rw [hex]
  have hob := oneBlk_setCells (b := g) news n w
  have hse := setCells_self (b := g) (T := r.e) (fz := fz) news n w cur.toList (by simpa using q4)
  have hblk := row_blk hra
  refine post_turn (v := .v (.slice (some ⟨g, 0, none⟩) (n + m) k)) (q := ⟨some ⟨g, 0, none⟩, r.n, r.cap, r.e, 1, r.xs.take n ++ news ++ r.xs.drop (n + m)⟩) hw hr ?_ (.inl ⟨(by decide : (1 : Nat) ≠ 4096), ?_, .inr ⟨g, r.cap, _, rfl, Nat.zero_le _, ⟨fz, hse, by simpa [putA_len] using q5⟩, q10 ▸ q6, q10 ▸ q7, ?_, ?_⟩⟩) (.inl (by rw [hblk]; rfl)) trivial (hK _ _ rfl rfl)
  · rw [hblk]
    exact hob.grown
  · simp
    omega
  · simp [putA_len]
    omega
  · show (putA cur.toList n news).take (r.n * 1) = r.xs.take n ++ news ++ r.xs.drop (n + m)
    rw [putA_mid news cur.toList n (by simp; omega), ← q9, hnl, Nat.mul_one]
    have hrn : r.n ≤ cur.size := by omega
    rw [List.take_append, List.take_append, List.take_take, List.take_take]
    simp only [List.length_append, List.length_take, Array.length_toList]
    rw [Nat.min_eq_left (a := n) (b := cur.size) (by omega), Nat.min_eq_right (a := r.n) (b := n) (by omega), Nat.min_eq_left (a := n) (b := r.n) (by omega)]
    rw [List.take_of_length_le (l := news) (by omega), List.drop_take, hnl]
end Go.Se
end
section
namespace Go.Proofs.YtepfbdfbfimefaaDoor.Tyse
open Go Go.Se Go.Proofs

/-- uint8 -/
def y5 : Ty := ⟨.int .u8, 1, false, .int .u8 0, 1⟩
theorem ty5 : tyOf Tryd.prog 5 = some y5 := by kernel_rfl
/-- []uint8 -/
def y22 : Ty := ⟨.slc 5, 1, false, .slice none 0 0, 24⟩
theorem ty22 : tyOf Tryd.prog 22 = some y22 := by kernel_rfl
/-- uint64 -/
def y33 : Ty := ⟨.int .u64, 1, false, .int .u64 0, 8⟩
theorem ty33 : tyOf Tryd.prog 33 = some y33 := by kernel_rfl
/-- uint32 -/
def y68 : Ty := ⟨.int .u32, 1, false, .int .u32 0, 4⟩
theorem ty68 : tyOf Tryd.prog 68 = some y68 := by kernel_rfl

/-- function 87: crypto/internal/fips140deps/byteorder.BEPutUint64 -/
def tys87 : Nat → Option Ty := fun t => find [] t
theorem ok87 : TysOk Tryd.prog tys87 := tysOk_of trivial

/-- function 88: crypto/internal/fips140deps/byteorder.BEPutUint32 -/
def tys88 : Nat → Option Ty := fun t => find [] t
theorem ok88 : TysOk Tryd.prog tys88 := tysOk_of trivial

/-- function 90: internal/byteorder.BEPutUint64 -/
def tys90 : Nat → Option Ty := fun t => find [(22, y22), (5, y5), (33, y33)] t
theorem ok90 : TysOk Tryd.prog tys90 := tysOk_of ⟨ty22, ty5, ty33, trivial⟩

/-- function 91: internal/byteorder.BEPutUint32 -/
def tys91 : Nat → Option Ty := fun t => find [(22, y22), (5, y5), (68, y68)] t
theorem ok91 : TysOk Tryd.prog tys91 := tysOk_of ⟨ty22, ty5, ty68, trivial⟩
end Go.Proofs.YtepfbdfbfimefaaDoor.Tyse
end
section
set_option linter.unusedSimpArgs false
set_option linter.unusedVariables false
namespace Go.Proofs.YtepfbdfbfimefaaDoor.Sha
open Go Go.Se Go.Proofs Go.Proofs.YtepfbdfbfimefaaDoor.Tyse

theorem set_mid {xs zs : List Value} {j : Nat} {v : Value} (h : zs = xs.take j ++ [v] ++ xs.drop (j + [v].length)) (hj : j < xs.length) : zs = xs.set j v := by
  rw [h, List.set_eq_take_append_cons_drop, if_pos hj]
  simp


set_option maxRecDepth 100000 in
theorem put4 {P : Program} (hP : P = Tryd.prog) (R : RO) (A B : Addr) (i nA cA e n c : Nat) (xs : List Value) (v : Int) (rs : List Row) (hB : B = A.add i) (hn : 4 ≤ n) (hi : i + 4 ≤ xs.length)
    {K' : RO → List (Nat × HB) → Nat → List Row → SV → Prop} (hg : ∀ zs, zs = xs.take i ++ ints .u8 (be4 v) ++ xs.drop (i + 4) → K' R [] 0 (⟨some A, nA, cA, e, 1, zs⟩ :: rs) (.tu [])) :
    CallP P 88 [.v (.slice (some B) n c), .v (.int .u32 v)] R [] 0 (⟨some A, nA, cA, e, 1, xs⟩ :: rs) K' := by
  subst hP
  refine callP_of_vc (fz := []) Tryd.func88 rfl (by decide) (Nat.le_of_ble_eq_true rfl) ok88 (by simp [labL, lab]) ?_
  rintro P ⟨bin, cmp, cnv, neg, com, bnot, beq, ofN, toN, at_, sub_, scmp, cat, sget, ssz, ssub, elem, fld_⟩ hP hA
  conv => cbv
  refine callP_in (fz := []) hP hA Tryd.func91 rfl (by decide) rfl ok91 (by simp [labL, lab]) ?_
  conv => cbv
  refine ⟨by decide, by rw [ofN_ hA]; omega, rfl, ?_⟩
  obtain ⟨u, hu⟩ : ∃ u, xs[i + 3]? = some u := ⟨_, List.getElem?_eq_getElem (by omega)⟩
  refine ld_k (v := u) (.inr ⟨_, List.mem_cons_self .., A, i + 3, rfl, (elem_at (elem_is hA) B 3 3 rfl).trans (by rw [hB, add_add']), hu⟩) ?_
  conv => cbv
  have hx0 : xs.length = xs.length := rfl
  refine ⟨by decide, ?_⟩
  refine ⟨by decide, by rw [ofN_ hA]; omega, rfl, ?_⟩
  refine ⟨0, _, A, i + 0, rfl, rfl, (elem_at (elem_is hA) B 0 0 rfl).trans (by rw [hB, add_add']), by show i + 0 + 1 ≤ xs.length; omega, ?_⟩
  intro z0 hz0
  have hz0 := set_mid hz0 (by show i + 0 < xs.length; omega)
  have hx1 : z0.length = xs.length := (congrArg List.length hz0).trans (List.length_set.trans hx0)
  conv => cbv
  refine ⟨by decide, ?_⟩
  refine ⟨by decide, by rw [ofN_ hA]; omega, rfl, ?_⟩
  refine ⟨0, _, A, i + 1, rfl, rfl, (elem_at (elem_is hA) B 1 1 rfl).trans (by rw [hB, add_add']), by show i + 1 + 1 ≤ z0.length; omega, ?_⟩
  intro z1 hz1
  have hz1 := set_mid hz1 (by show i + 1 < z0.length; omega)
  have hx2 : z1.length = xs.length := (congrArg List.length hz1).trans (List.length_set.trans hx1)
  conv => cbv
  refine ⟨by decide, ?_⟩
  refine ⟨by decide, by rw [ofN_ hA]; omega, rfl, ?_⟩
  refine ⟨0, _, A, i + 2, rfl, rfl, (elem_at (elem_is hA) B 2 2 rfl).trans (by rw [hB, add_add']), by show i + 2 + 1 ≤ z1.length; omega, ?_⟩
  intro z2 hz2
  have hz2 := set_mid hz2 (by show i + 2 < z1.length; omega)
  have hx3 : z2.length = xs.length := (congrArg List.length hz2).trans (List.length_set.trans hx2)
  conv => cbv
  refine ⟨by decide, by rw [ofN_ hA]; omega, rfl, ?_⟩
  refine ⟨0, _, A, i + 3, rfl, rfl, (elem_at (elem_is hA) B 3 3 rfl).trans (by rw [hB, add_add']), by show i + 3 + 1 ≤ z2.length; omega, ?_⟩
  intro z3 hz3
  have hz3 := set_mid hz3 (by show i + 3 < z2.length; omega)
  have hx4 : z3.length = xs.length := (congrArg List.length hz3).trans (List.length_set.trans hx3)
  conv => cbv
  refine hg _ ?_
  have h := putA_mid (ints .u8 (be4 v)) xs i (by rw [ints_len]; exact hi)
  rw [show i + (ints .u8 (be4 v)).length = i + 4 from rfl] at h
  rw [← h, hz3, hz2, hz1, hz0, bin_is hA, cnv_is hA]
  rfl

set_option maxRecDepth 100000 in
theorem put8 {P : Program} (hP : P = Tryd.prog) (R : RO) (A B : Addr) (i nA cA e n c : Nat) (xs : List Value) (v : Int) (rs : List Row) (hB : B = A.add i) (hn : 8 ≤ n) (hi : i + 8 ≤ xs.length)
    {K' : RO → List (Nat × HB) → Nat → List Row → SV → Prop} (hg : ∀ zs, zs = xs.take i ++ ints .u8 (be8 v) ++ xs.drop (i + 8) → K' R [] 0 (⟨some A, nA, cA, e, 1, zs⟩ :: rs) (.tu [])) :
    CallP P 87 [.v (.slice (some B) n c), .v (.int .u64 v)] R [] 0 (⟨some A, nA, cA, e, 1, xs⟩ :: rs) K' := by
  subst hP
  refine callP_of_vc (fz := []) Tryd.func87 rfl (by decide) (Nat.le_of_ble_eq_true rfl) ok87 (by simp [labL, lab]) ?_
  rintro P ⟨bin, cmp, cnv, neg, com, bnot, beq, ofN, toN, at_, sub_, scmp, cat, sget, ssz, ssub, elem, fld_⟩ hP hA
  conv => cbv
  refine callP_in (fz := []) hP hA Tryd.func90 rfl (by decide) rfl ok90 (by simp [labL, lab]) ?_
  conv => cbv
  refine ⟨by decide, by rw [ofN_ hA]; omega, rfl, ?_⟩
  obtain ⟨u, hu⟩ : ∃ u, xs[i + 7]? = some u := ⟨_, List.getElem?_eq_getElem (by omega)⟩
  refine ld_k (v := u) (.inr ⟨_, List.mem_cons_self .., A, i + 7, rfl, (elem_at (elem_is hA) B 7 7 rfl).trans (by rw [hB, add_add']), hu⟩) ?_
  conv => cbv
  have hx0 : xs.length = xs.length := rfl
  refine ⟨by decide, ?_⟩
  refine ⟨by decide, by rw [ofN_ hA]; omega, rfl, ?_⟩
  refine ⟨0, _, A, i + 0, rfl, rfl, (elem_at (elem_is hA) B 0 0 rfl).trans (by rw [hB, add_add']), by show i + 0 + 1 ≤ xs.length; omega, ?_⟩
  intro z0 hz0
  have hz0 := set_mid hz0 (by show i + 0 < xs.length; omega)
  have hx1 : z0.length = xs.length := (congrArg List.length hz0).trans (List.length_set.trans hx0)
  conv => cbv
  refine ⟨by decide, ?_⟩
  refine ⟨by decide, by rw [ofN_ hA]; omega, rfl, ?_⟩
  refine ⟨0, _, A, i + 1, rfl, rfl, (elem_at (elem_is hA) B 1 1 rfl).trans (by rw [hB, add_add']), by show i + 1 + 1 ≤ z0.length; omega, ?_⟩
  intro z1 hz1
  have hz1 := set_mid hz1 (by show i + 1 < z0.length; omega)
  have hx2 : z1.length = xs.length := (congrArg List.length hz1).trans (List.length_set.trans hx1)
  conv => cbv
  refine ⟨by decide, ?_⟩
  refine ⟨by decide, by rw [ofN_ hA]; omega, rfl, ?_⟩
  refine ⟨0, _, A, i + 2, rfl, rfl, (elem_at (elem_is hA) B 2 2 rfl).trans (by rw [hB, add_add']), by show i + 2 + 1 ≤ z1.length; omega, ?_⟩
  intro z2 hz2
  have hz2 := set_mid hz2 (by show i + 2 < z1.length; omega)
  have hx3 : z2.length = xs.length := (congrArg List.length hz2).trans (List.length_set.trans hx2)
  conv => cbv
  refine ⟨by decide, ?_⟩
  refine ⟨by decide, by rw [ofN_ hA]; omega, rfl, ?_⟩
  refine ⟨0, _, A, i + 3, rfl, rfl, (elem_at (elem_is hA) B 3 3 rfl).trans (by rw [hB, add_add']), by show i + 3 + 1 ≤ z2.length; omega, ?_⟩
  intro z3 hz3
  have hz3 := set_mid hz3 (by show i + 3 < z2.length; omega)
  have hx4 : z3.length = xs.length := (congrArg List.length hz3).trans (List.length_set.trans hx3)
  conv => cbv
  refine ⟨by decide, ?_⟩
  refine ⟨by decide, by rw [ofN_ hA]; omega, rfl, ?_⟩
  refine ⟨0, _, A, i + 4, rfl, rfl, (elem_at (elem_is hA) B 4 4 rfl).trans (by rw [hB, add_add']), by show i + 4 + 1 ≤ z3.length; omega, ?_⟩
  intro z4 hz4
  have hz4 := set_mid hz4 (by show i + 4 < z3.length; omega)
  have hx5 : z4.length = xs.length := (congrArg List.length hz4).trans (List.length_set.trans hx4)
  conv => cbv
  refine ⟨by decide, ?_⟩
  refine ⟨by decide, by rw [ofN_ hA]; omega, rfl, ?_⟩
  refine ⟨0, _, A, i + 5, rfl, rfl, (elem_at (elem_is hA) B 5 5 rfl).trans (by rw [hB, add_add']), by show i + 5 + 1 ≤ z4.length; omega, ?_⟩
  intro z5 hz5
  have hz5 := set_mid hz5 (by show i + 5 < z4.length; omega)
  have hx6 : z5.length = xs.length := (congrArg List.length hz5).trans (List.length_set.trans hx5)
  conv => cbv
  refine ⟨by decide, ?_⟩
  refine ⟨by decide, by rw [ofN_ hA]; omega, rfl, ?_⟩
  refine ⟨0, _, A, i + 6, rfl, rfl, (elem_at (elem_is hA) B 6 6 rfl).trans (by rw [hB, add_add']), by show i + 6 + 1 ≤ z5.length; omega, ?_⟩
  intro z6 hz6
  have hz6 := set_mid hz6 (by show i + 6 < z5.length; omega)
  have hx7 : z6.length = xs.length := (congrArg List.length hz6).trans (List.length_set.trans hx6)
  conv => cbv
  refine ⟨by decide, by rw [ofN_ hA]; omega, rfl, ?_⟩
  refine ⟨0, _, A, i + 7, rfl, rfl, (elem_at (elem_is hA) B 7 7 rfl).trans (by rw [hB, add_add']), by show i + 7 + 1 ≤ z6.length; omega, ?_⟩
  intro z7 hz7
  have hz7 := set_mid hz7 (by show i + 7 < z6.length; omega)
  have hx8 : z7.length = xs.length := (congrArg List.length hz7).trans (List.length_set.trans hx7)
  conv => cbv
  refine hg _ ?_
  have h := putA_mid (ints .u8 (be8 v)) xs i (by rw [ints_len]; exact hi)
  rw [show i + (ints .u8 (be8 v)).length = i + 8 from rfl] at h
  rw [← h, hz7, hz6, hz5, hz4, hz3, hz2, hz1, hz0, bin_is hA, cnv_is hA]
  rfl

end Go.Proofs.YtepfbdfbfimefaaDoor.Sha
end
section
namespace Go.Proofs.YtepfbdfbfimefaaDoor.Tysf
open Go Go.Se Go.Proofs

/-- int -/
def y3 : Ty := ⟨.int .i64, 1, false, .int .i64 0, 8⟩
theorem ty3 : tyOf Tryd.prog 3 = some y3 := by kernel_rfl
/-- bool -/
def y4 : Ty := ⟨.bool, 1, false, .bool false, 1⟩
theorem ty4 : tyOf Tryd.prog 4 = some y4 := by kernel_rfl
/-- uint8 -/
def y5 : Ty := ⟨.int .u8, 1, false, .int .u8 0, 1⟩
theorem ty5 : tyOf Tryd.prog 5 = some y5 := by kernel_rfl
/-- uint64 -/
def y33 : Ty := ⟨.int .u64, 1, false, .int .u64 0, 8⟩
theorem ty33 : tyOf Tryd.prog 33 = some y33 := by kernel_rfl
/-- uint32 -/
def y68 : Ty := ⟨.int .u32, 1, false, .int .u32 0, 4⟩
theorem ty68 : tyOf Tryd.prog 68 = some y68 := by kernel_rfl
/-- *sha256.Digest -/
def y84 : Ty := ⟨.ptr, 1, false, .pointer none, 8⟩
theorem ty84 : tyOf Tryd.prog 84 = some y84 := by kernel_rfl
/-- [8]uint32 -/
def y89 : Ty := ⟨.arr 8 68, 8, true, .agg #[.int .u32 0, .int .u32 0, .int .u32 0, .int .u32 0, .int .u32 0, .int .u32 0, .int .u32 0, .int .u32 0], 32⟩
theorem ty89 : tyOf Tryd.prog 89 = some y89 := by kernel_rfl
/-- [64]uint8 -/
def y90 : Ty := ⟨.arr 64 5, 64, true, .agg #[.int .u8 0, .int .u8 0, .int .u8 0, .int .u8 0, .int .u8 0, .int .u8 0, .int .u8 0, .int .u8 0, .int .u8 0, .int .u8 0, .int .u8 0, .int .u8 0, .int .u8 0, .int .u8 0, .int .u8 0, .int .u8 0, .int .u8 0, .int .u8 0, .int .u8 0, .int .u8 0, .int .u8 0, .int .u8 0, .int .u8 0, .int .u8 0, .int .u8 0, .int .u8 0, .int .u8 0, .int .u8 0, .int .u8 0, .int .u8 0, .int .u8 0, .int .u8 0, .int .u8 0, .int .u8 0, .int .u8 0, .int .u8 0, .int .u8 0, .int .u8 0, .int .u8 0, .int .u8 0, .int .u8 0, .int .u8 0, .int .u8 0, .int .u8 0, .int .u8 0, .int .u8 0, .int .u8 0, .int .u8 0, .int .u8 0, .int .u8 0, .int .u8 0, .int .u8 0, .int .u8 0, .int .u8 0, .int .u8 0, .int .u8 0, .int .u8 0, .int .u8 0, .int .u8 0, .int .u8 0, .int .u8 0, .int .u8 0, .int .u8 0, .int .u8 0], 64⟩
theorem ty90 : tyOf Tryd.prog 90 = some y90 := by kernel_rfl
/-- sha256.Digest -/
def y92 : Ty := ⟨.stc [(0, 89), (8, 90), (72, 3), (73, 33), (74, 4)], 75, true, .agg #[.int .u32 0, .int .u32 0, .int .u32 0, .int .u32 0, .int .u32 0, .int .u32 0, .int .u32 0, .int .u32 0, .int .u8 0, .int .u8 0, .int .u8 0, .int .u8 0, .int .u8 0, .int .u8 0, .int .u8 0, .int .u8 0, .int .u8 0, .int .u8 0, .int .u8 0, .int .u8 0, .int .u8 0, .int .u8 0, .int .u8 0, .int .u8 0, .int .u8 0, .int .u8 0, .int .u8 0, .int .u8 0, .int .u8 0, .int .u8 0, .int .u8 0, .int .u8 0, .int .u8 0, .int .u8 0, .int .u8 0, .int .u8 0, .int .u8 0, .int .u8 0, .int .u8 0, .int .u8 0, .int .u8 0, .int .u8 0, .int .u8 0, .int .u8 0, .int .u8 0, .int .u8 0, .int .u8 0, .int .u8 0, .int .u8 0, .int .u8 0, .int .u8 0, .int .u8 0, .int .u8 0, .int .u8 0, .int .u8 0, .int .u8 0, .int .u8 0, .int .u8 0, .int .u8 0, .int .u8 0, .int .u8 0, .int .u8 0, .int .u8 0, .int .u8 0, .int .u8 0, .int .u8 0, .int .u8 0, .int .u8 0, .int .u8 0, .int .u8 0, .int .u8 0, .int .u8 0, .int .i64 0, .int .u64 0, .bool false], 120⟩
theorem ty92 : tyOf Tryd.prog 92 = some y92 := by kernel_rfl

/-- function 48: crypto/sha256.New -/
def tys48 : Nat → Option Ty := fun t => find [(84, y84)] t
theorem ok48 : TysOk Tryd.prog tys48 := tysOk_of ⟨ty84, trivial⟩

/-- function 54: crypto/internal/fips140/sha256.New -/
def tys54 : Nat → Option Ty := fun t => find [(92, y92)] t
theorem ok54 : TysOk Tryd.prog tys54 := tysOk_of ⟨ty92, trivial⟩

/-- function 59: (*crypto/internal/fips140/sha256.Digest).Reset -/
def tys59 : Nat → Option Ty := fun t => find [(92, y92), (89, y89), (68, y68), (90, y90), (5, y5), (3, y3), (33, y33), (4, y4)] t
theorem ok59 : TysOk Tryd.prog tys59 := tysOk_of ⟨ty92, ty89, ty68, ty90, ty5, ty3, ty33, ty4, trivial⟩
end Go.Proofs.YtepfbdfbfimefaaDoor.Tysf
end
section
set_option linter.unusedSimpArgs false
set_option linter.unusedVariables false
namespace Go.Proofs.YtepfbdfbfimefaaDoor.Sha
open Go Go.Se Go.Proofs Go.Proofs.YtepfbdfbfimefaaDoor.Tysf


set_option maxRecDepth 100000 in
theorem resetC {P : Program} (hP : P = Tryd.prog) (R : RO) (K : List Int) (rs : List Row) (D : Addr) (zs : List Value) (s : S8) (buf : List Int) (r m : Int) (hb : buf.length = 64) (hz : zs = dz s buf r m)
    {K' : RO → List (Nat × HB) → Nat → List Row → SV → Prop} (hg : ∀ zs', Dg K [] zs' → K' R [] 0 (⟨some D, 75, 75, 92, 1, zs'⟩ :: rs) (.tu [])) :
    CallP P 59 [.v (.pointer (some D))] R [] 0 (⟨some D, 75, 75, 92, 1, zs⟩ :: rs) K' := by
  subst hP
  refine callP_of_vc (fz := []) Tryd.func59 rfl (by decide) (Nat.le_of_ble_eq_true rfl) ok59 (by simp [labL, lab]) ?_
  rintro P ⟨bin, cmp, cnv, neg, com, bnot, beq, ofN, toN, at_, sub_, scmp, cat, sget, ssz, ssub, elem, fld_⟩ hP hA
  have hl0 : zs.length = 75 := by rw [hz, dz_len _ _ hb]
  conv => cbv
  refine ld_dg (fld__is hA) 74 (v := .bool false) (by rw [hz]; exact dz_74 s buf hb r m) ?_
  conv => cbv
  refine br_t (by rw [bnot_ hA]; rfl) ?_
  conv => cbv
  refine ⟨by decide, by rw [ofN_ hA]; decide, rfl, ?_⟩
  refine ⟨0, _, D, 0, rfl, rfl, (elem_at (elem_is hA) _ 0 0 rfl).trans (by rw [fld__is hA]; show (D.add 0).add 0 = D.add 0; rw [add_add', Nat.zero_add]), by show 0 + 1 ≤ zs.length; omega, ?_⟩
  intro z0 hz0
  have hz0 := set_mid hz0 (by show 0 < zs.length; omega)
  have hl1 : z0.length = 75 := (congrArg List.length hz0).trans (List.length_set.trans hl0)
  conv => cbv
  refine ⟨by decide, by rw [ofN_ hA]; decide, rfl, ?_⟩
  refine ⟨0, _, D, 1, rfl, rfl, (elem_at (elem_is hA) _ 1 1 rfl).trans (by rw [fld__is hA]; show (D.add 0).add 1 = D.add 1; rw [add_add', Nat.zero_add]), by show 1 + 1 ≤ z0.length; omega, ?_⟩
  intro z1 hz1
  have hz1 := set_mid hz1 (by show 1 < z0.length; omega)
  have hl2 : z1.length = 75 := (congrArg List.length hz1).trans (List.length_set.trans hl1)
  conv => cbv
  refine ⟨by decide, by rw [ofN_ hA]; decide, rfl, ?_⟩
  refine ⟨0, _, D, 2, rfl, rfl, (elem_at (elem_is hA) _ 2 2 rfl).trans (by rw [fld__is hA]; show (D.add 0).add 2 = D.add 2; rw [add_add', Nat.zero_add]), by show 2 + 1 ≤ z1.length; omega, ?_⟩
  intro z2 hz2
  have hz2 := set_mid hz2 (by show 2 < z1.length; omega)
  have hl3 : z2.length = 75 := (congrArg List.length hz2).trans (List.length_set.trans hl2)
  conv => cbv
  refine ⟨by decide, by rw [ofN_ hA]; decide, rfl, ?_⟩
  refine ⟨0, _, D, 3, rfl, rfl, (elem_at (elem_is hA) _ 3 3 rfl).trans (by rw [fld__is hA]; show (D.add 0).add 3 = D.add 3; rw [add_add', Nat.zero_add]), by show 3 + 1 ≤ z2.length; omega, ?_⟩
  intro z3 hz3
  have hz3 := set_mid hz3 (by show 3 < z2.length; omega)
  have hl4 : z3.length = 75 := (congrArg List.length hz3).trans (List.length_set.trans hl3)
  conv => cbv
  refine ⟨by decide, by rw [ofN_ hA]; decide, rfl, ?_⟩
  refine ⟨0, _, D, 4, rfl, rfl, (elem_at (elem_is hA) _ 4 4 rfl).trans (by rw [fld__is hA]; show (D.add 0).add 4 = D.add 4; rw [add_add', Nat.zero_add]), by show 4 + 1 ≤ z3.length; omega, ?_⟩
  intro z4 hz4
  have hz4 := set_mid hz4 (by show 4 < z3.length; omega)
  have hl5 : z4.length = 75 := (congrArg List.length hz4).trans (List.length_set.trans hl4)
  conv => cbv
  refine ⟨by decide, by rw [ofN_ hA]; decide, rfl, ?_⟩
  refine ⟨0, _, D, 5, rfl, rfl, (elem_at (elem_is hA) _ 5 5 rfl).trans (by rw [fld__is hA]; show (D.add 0).add 5 = D.add 5; rw [add_add', Nat.zero_add]), by show 5 + 1 ≤ z4.length; omega, ?_⟩
  intro z5 hz5
  have hz5 := set_mid hz5 (by show 5 < z4.length; omega)
  have hl6 : z5.length = 75 := (congrArg List.length hz5).trans (List.length_set.trans hl5)
  conv => cbv
  refine ⟨by decide, by rw [ofN_ hA]; decide, rfl, ?_⟩
  refine ⟨0, _, D, 6, rfl, rfl, (elem_at (elem_is hA) _ 6 6 rfl).trans (by rw [fld__is hA]; show (D.add 0).add 6 = D.add 6; rw [add_add', Nat.zero_add]), by show 6 + 1 ≤ z5.length; omega, ?_⟩
  intro z6 hz6
  have hz6 := set_mid hz6 (by show 6 < z5.length; omega)
  have hl7 : z6.length = 75 := (congrArg List.length hz6).trans (List.length_set.trans hl6)
  conv => cbv
  refine ⟨by decide, by rw [ofN_ hA]; decide, rfl, ?_⟩
  refine ⟨0, _, D, 7, rfl, rfl, (elem_at (elem_is hA) _ 7 7 rfl).trans (by rw [fld__is hA]; show (D.add 0).add 7 = D.add 7; rw [add_add', Nat.zero_add]), by show 7 + 1 ≤ z6.length; omega, ?_⟩
  intro z7 hz7
  have hz7 := set_mid hz7 (by show 7 < z6.length; omega)
  have hl8 : z7.length = 75 := (congrArg List.length hz7).trans (List.length_set.trans hl7)
  conv => cbv
  have h7 : z7 = dz S0 buf r m := by
    rw [hz7, hz6, hz5, hz4, hz3, hz2, hz1, hz0, hz]
    rfl
  refine ⟨0, _, D, 72, rfl, rfl, fld_at (fld__is hA) D 72, by show 72 + 1 ≤ z7.length; omega, ?_⟩
  intro z8 hz8
  have hz8 : z8 = dz S0 buf 0 m := by rw [hz8, ← dz_s72 _ _ hb r m, h7]; rfl
  conv => cbv
  refine ⟨0, _, D, 73, rfl, rfl, fld_at (fld__is hA) D 73, by show 73 + 1 ≤ z8.length; rw [hz8, dz_len _ _ hb]; omega, ?_⟩
  intro z9 hz9
  have hz9 : z9 = dz S0 buf 0 0 := by rw [hz9, ← dz_s73 _ _ hb 0 m, hz8]; rfl
  conv => cbv
  exact hg _ ⟨S0, buf, 0, 0, hz9, hb, rfl, by omega, Nat.le_refl _, rfl, fun j hj => absurd hj (Nat.not_lt_zero j)⟩

set_option maxRecDepth 100000 in
/-- A new digest, as a hash. -/
theorem newC {P : Program} (hP : P = Tryd.prog) (R : RO) (K : List Int) (rs : List Row)
    {K' : RO → List (Nat × HB) → Nat → List Row → SV → Prop} (hg : ∀ D zs', Dg K [] zs' → K' R [] 0 (⟨some D, 75, 75, 92, 1, zs'⟩ :: rs) (.v (.iface 84 (.pointer (some D))))) :
    CallP P 48 [] R [] 0 rs K' := by
  subst hP
  refine callP_of_vc (fz := []) Tryd.func48 rfl (by decide) (Nat.le_of_ble_eq_true rfl) ok48 (by simp [labL, lab]) ?_
  rintro P ⟨bin, cmp, cnv, neg, com, bnot, beq, ofN, toN, at_, sub_, scmp, cat, sget, ssz, ssub, elem, fld_⟩ hP hA
  conv => cbv
  refine callP_in (fz := [502]) hP hA Tryd.func54 rfl (by decide) rfl ok54 (by simp [labL, lab]) ?_
  conv => cbv
  refine ⟨_, rfl, by decide, ?_⟩
  intro D n75 z hn hz
  obtain rfl : n75 = 75 := hn
  have hz : z = dz ⟨0, 0, 0, 0, 0, 0, 0, 0⟩ (List.replicate 64 0) 0 0 := by rw [hz]; rfl
  conv => cbv
  refine resetC hP R K rs D z _ _ _ _ (by simp) hz ?_
  intro zs' hd
  conv => cbv
  exact hg D zs' hd
end Go.Proofs.YtepfbdfbfimefaaDoor.Sha
end
section
namespace Go.Proofs.YtepfbdfbfimefaaDoor.Tysg
open Go Go.Se Go.Proofs

end Go.Proofs.YtepfbdfbfimefaaDoor.Tysg
end
section
set_option linter.unusedSimpArgs false
set_option linter.unusedVariables false
namespace Go.Proofs.YtepfbdfbfimefaaDoor.Sha
open Go Go.Se Go.Proofs Go.Proofs.YtepfbdfbfimefaaDoor.Tysg

theorem list32 {α : Type} (l : List α) (h : l.length = 32) : ∃ v0 v1 v2 v3 v4 v5 v6 v7 v8 v9 v10 v11 v12 v13 v14 v15 v16 v17 v18 v19 v20 v21 v22 v23 v24 v25 v26 v27 v28 v29 v30 v31, l = [v0, v1, v2, v3, v4, v5, v6, v7, v8, v9, v10, v11, v12, v13, v14, v15, v16, v17, v18, v19, v20, v21, v22, v23, v24, v25, v26, v27, v28, v29, v30, v31] := by
  obtain ⟨v0, l0, e0, h⟩ := uncons h
  obtain ⟨v1, l1, e1, h⟩ := uncons h
  obtain ⟨v2, l2, e2, h⟩ := uncons h
  obtain ⟨v3, l3, e3, h⟩ := uncons h
  obtain ⟨v4, l4, e4, h⟩ := uncons h
  obtain ⟨v5, l5, e5, h⟩ := uncons h
  obtain ⟨v6, l6, e6, h⟩ := uncons h
  obtain ⟨v7, l7, e7, h⟩ := uncons h
  obtain ⟨v8, l8, e8, h⟩ := uncons h
  obtain ⟨v9, l9, e9, h⟩ := uncons h
  obtain ⟨v10, l10, e10, h⟩ := uncons h
  obtain ⟨v11, l11, e11, h⟩ := uncons h
  obtain ⟨v12, l12, e12, h⟩ := uncons h
  obtain ⟨v13, l13, e13, h⟩ := uncons h
  obtain ⟨v14, l14, e14, h⟩ := uncons h
  obtain ⟨v15, l15, e15, h⟩ := uncons h
  obtain ⟨v16, l16, e16, h⟩ := uncons h
  obtain ⟨v17, l17, e17, h⟩ := uncons h
  obtain ⟨v18, l18, e18, h⟩ := uncons h
  obtain ⟨v19, l19, e19, h⟩ := uncons h
  obtain ⟨v20, l20, e20, h⟩ := uncons h
  obtain ⟨v21, l21, e21, h⟩ := uncons h
  obtain ⟨v22, l22, e22, h⟩ := uncons h
  obtain ⟨v23, l23, e23, h⟩ := uncons h
  obtain ⟨v24, l24, e24, h⟩ := uncons h
  obtain ⟨v25, l25, e25, h⟩ := uncons h
  obtain ⟨v26, l26, e26, h⟩ := uncons h
  obtain ⟨v27, l27, e27, h⟩ := uncons h
  obtain ⟨v28, l28, e28, h⟩ := uncons h
  obtain ⟨v29, l29, e29, h⟩ := uncons h
  obtain ⟨v30, l30, e30, h⟩ := uncons h
  obtain ⟨v31, l31, e31, h⟩ := uncons h
  exact ⟨v0, v1, v2, v3, v4, v5, v6, v7, v8, v9, v10, v11, v12, v13, v14, v15, v16, v17, v18, v19, v20, v21, v22, v23, v24, v25, v26, v27, v28, v29, v30, v31, by rw [e0, e1, e2, e3, e4, e5, e6, e7, e8, e9, e10, e11, e12, e13, e14, e15, e16, e17, e18, e19, e20, e21, e22, e23, e24, e25, e26, e27, e28, e29, e30, e31, List.length_eq_zero_iff.1 h]⟩

section
variable {P : Program} (hP : P = Tryd.prog) (R : RO) {hp : List (Nat × HB)} {nx : Nat} (fr : List Row) {K' : RO → List (Nat × HB) → Nat → List Row → SV → Prop}
include hP

theorem put4F (A B : Addr) (i nA cA e n c : Nat) (xs : List Value) (v : Int) (hB : B = A.add i) (hn : 4 ≤ n) (hi : i + 4 ≤ xs.length) (hg : ∀ zs, zs = xs.take i ++ ints .u8 (be4 v) ++ xs.drop (i + 4) → K' R hp nx (⟨some A, nA, cA, e, 1, zs⟩ :: fr) (.tu [])) :
    CallP P 88 [.v (.slice (some B) n c), .v (.int .u32 v)] R hp nx (⟨some A, nA, cA, e, 1, xs⟩ :: fr) K' :=
  CallP.frame (vs := [.slice (some B) n c, .int .u32 v]) (rs := [⟨some A, nA, cA, e, 1, xs⟩]) (fr := fr) (put4 hP R A B i nA cA e n c xs v [] hB hn hi (K' := fun R' _ _ rs' r => R' = R ∧ r = .tu [] ∧ ∃ zs, zs = xs.take i ++ ints .u8 (be4 v) ++ xs.drop (i + 4) ∧ rs' = [⟨some A, nA, cA, e, 1, zs⟩]) (fun zs hz => ⟨rfl, rfl, zs, hz, rfl⟩)) rfl (.refl _) fun R' hp' nx' rs' r _ ⟨h1, h2, zs, h3, h4⟩ => by
    subst h1 h2 h4
    exact ⟨.tu [], _, [], _, fun _ _ => rfl, trivial, .refl _, .refl _, hg zs h3⟩

theorem put8F (A B : Addr) (i nA cA e n c : Nat) (xs : List Value) (v : Int) (hB : B = A.add i) (hn : 8 ≤ n) (hi : i + 8 ≤ xs.length) (hg : ∀ zs, zs = xs.take i ++ ints .u8 (be8 v) ++ xs.drop (i + 8) → K' R hp nx (⟨some A, nA, cA, e, 1, zs⟩ :: fr) (.tu [])) :
    CallP P 87 [.v (.slice (some B) n c), .v (.int .u64 v)] R hp nx (⟨some A, nA, cA, e, 1, xs⟩ :: fr) K' :=
  CallP.frame (vs := [.slice (some B) n c, .int .u64 v]) (rs := [⟨some A, nA, cA, e, 1, xs⟩]) (fr := fr) (put8 hP R A B i nA cA e n c xs v [] hB hn hi (K' := fun R' _ _ rs' r => R' = R ∧ r = .tu [] ∧ ∃ zs, zs = xs.take i ++ ints .u8 (be8 v) ++ xs.drop (i + 8) ∧ rs' = [⟨some A, nA, cA, e, 1, zs⟩]) (fun zs hz => ⟨rfl, rfl, zs, hz, rfl⟩)) rfl (.refl _) fun R' hp' nx' rs' r _ ⟨h1, h2, zs, h3, h4⟩ => by
    subst h1 h2 h4
    exact ⟨.tu [], _, [], _, fun _ _ => rfl, trivial, .refl _, .refl _, hg zs h3⟩

theorem resetF (K : List Int) (D : Addr) (zs bs : List Value) (s : S8) (buf : List Int) (r m : Int) (hb : buf.length = 64) (hz : zs = dz s buf r m) (hg : ∀ zs', Dg K [] zs' → K' R hp nx (⟨some D, 75, 75, 92, 1, zs'⟩ :: fr) (.tu [])) :
    CallP P 59 [.v (.pointer (some D))] R hp nx (⟨some D, 75, 75, 92, 1, zs⟩ :: fr) K' :=
  CallP.frame (vs := [.pointer (some D)]) (rs := [⟨some D, 75, 75, 92, 1, zs⟩]) (fr := fr) (resetC hP R K [] D zs s buf r m hb hz (K' := fun R' _ _ rs' r => R' = R ∧ r = .tu [] ∧ ∃ zs, Dg K [] zs ∧ rs' = [⟨some D, 75, 75, 92, 1, zs⟩]) (fun zs hz => ⟨rfl, rfl, zs, hz, rfl⟩)) rfl (.refl _) fun R' hp' nx' rs' r _ ⟨h1, h2, zs, h3, h4⟩ => by
    subst h1 h2 h4
    exact ⟨.tu [], _, [], _, fun _ _ => rfl, trivial, .refl _, .refl _, hg zs h3⟩

theorem newF (K : List Int) (hg : ∀ D zs', Dg K [] zs' → K' R hp nx (⟨some D, 75, 75, 92, 1, zs'⟩ :: fr) (.v (.iface 84 (.pointer (some D))))) :
    CallP P 48 [] R hp nx fr K' :=
  CallP.frame (vs := []) (rs := []) (fr := fr) (newC hP R K [] (K' := fun R' _ _ rs' r => R' = R ∧ ∃ D zs, r = .v (.iface 84 (.pointer (some D))) ∧ Dg K [] zs ∧ rs' = [⟨some D, 75, 75, 92, 1, zs⟩]) (fun D zs hz => ⟨rfl, D, zs, rfl, hz, rfl⟩)) rfl (.refl _) fun R' hp' nx' rs' r _ ⟨h1, D, zs, h2, h3, h4⟩ => by
    subst h1 h2 h4
    exact ⟨.v _, _, [], _, fun _ _ => rfl, trivial, .refl _, .refl _, hg D zs h3⟩

theorem writeF (K : List Int) (hK : RI R .u32 (some ⟨3, 0, none⟩) 64 K) (D : Addr) (zs : List Value) (bs ps : List Int) (hd : Dg K bs zs)
    (pa : Option Addr) (p : Addr) (N Cp : Nat) (hNC : N ≤ Cp) (hps : ps.length = N) (hN : bs.length + N ≤ 1099511627776) (hpa : N ≠ 0 → pa = some p) (hp2 : ∀ j, j < N → KCell R fr (p.add j) (.int .u8 (ps.getD j 0)))
    (hg : ∀ zs', Dg K (bs ++ ps) zs' → K' R hp nx (⟨some D, 75, 75, 92, 1, zs'⟩ :: fr) (.tu [.v (.int .i64 N), .v .nilIface])) :
    CallP P 81 [.v (.pointer (some D)), .v (.slice pa N Cp)] R hp nx (⟨some D, 75, 75, 92, 1, zs⟩ :: fr) K' :=
  CallP.frame (vs := [.pointer (some D), .slice pa N Cp]) (rs := ⟨some D, 75, 75, 92, 1, zs⟩ :: fr) (fr := []) (writeC hP R K hK fr D zs bs ps hd pa p N Cp hNC hps hN hpa hp2 (K' := fun R' _ _ rs' r => R' = R ∧ r = .tu [.v (.int .i64 N), .v .nilIface] ∧ ∃ zs', Dg K (bs ++ ps) zs' ∧ rs' = ⟨some D, 75, 75, 92, 1, zs'⟩ :: fr) (fun zs' hz => ⟨rfl, rfl, zs', hz, rfl⟩)) rfl (by rw [List.append_nil]) fun R' hp' nx' rs' r _ ⟨h1, h2, zs', h3, h4⟩ => by
    subst h1 h2 h4
    exact ⟨_, _, [], _, fun _ _ => rfl, by simp [lab, labL], .refl _, by rw [List.append_nil], hg zs' h3⟩
end
end Go.Proofs.YtepfbdfbfimefaaDoor.Sha
end
section
namespace Go.Proofs.YtepfbdfbfimefaaDoor.Tysh
open Go Go.Se Go.Proofs

/-- int -/
def y3 : Ty := ⟨.int .i64, 1, false, .int .i64 0, 8⟩
theorem ty3 : tyOf Tryd.prog 3 = some y3 := by kernel_rfl
/-- bool -/
def y4 : Ty := ⟨.bool, 1, false, .bool false, 1⟩
theorem ty4 : tyOf Tryd.prog 4 = some y4 := by kernel_rfl
/-- uint8 -/
def y5 : Ty := ⟨.int .u8, 1, false, .int .u8 0, 1⟩
theorem ty5 : tyOf Tryd.prog 5 = some y5 := by kernel_rfl
/-- string -/
def y9 : Ty := ⟨.str, 1, false, .string ByteArray.empty, 16⟩
theorem ty9 : tyOf Tryd.prog 9 = some y9 := by kernel_rfl
/-- []uint8 -/
def y22 : Ty := ⟨.slc 5, 1, false, .slice none 0 0, 24⟩
theorem ty22 : tyOf Tryd.prog 22 = some y22 := by kernel_rfl
/-- uint64 -/
def y33 : Ty := ⟨.int .u64, 1, false, .int .u64 0, 8⟩
theorem ty33 : tyOf Tryd.prog 33 = some y33 := by kernel_rfl
/-- [32]uint8 -/
def y39 : Ty := ⟨.arr 32 5, 32, true, .agg #[.int .u8 0, .int .u8 0, .int .u8 0, .int .u8 0, .int .u8 0, .int .u8 0, .int .u8 0, .int .u8 0, .int .u8 0, .int .u8 0, .int .u8 0, .int .u8 0, .int .u8 0, .int .u8 0, .int .u8 0, .int .u8 0, .int .u8 0, .int .u8 0, .int .u8 0, .int .u8 0, .int .u8 0, .int .u8 0, .int .u8 0, .int .u8 0, .int .u8 0, .int .u8 0, .int .u8 0, .int .u8 0, .int .u8 0, .int .u8 0, .int .u8 0, .int .u8 0], 32⟩
theorem ty39 : tyOf Tryd.prog 39 = some y39 := by kernel_rfl
/-- uint32 -/
def y68 : Ty := ⟨.int .u32, 1, false, .int .u32 0, 4⟩
theorem ty68 : tyOf Tryd.prog 68 = some y68 := by kernel_rfl
/-- [8]uint32 -/
def y89 : Ty := ⟨.arr 8 68, 8, true, .agg #[.int .u32 0, .int .u32 0, .int .u32 0, .int .u32 0, .int .u32 0, .int .u32 0, .int .u32 0, .int .u32 0], 32⟩
theorem ty89 : tyOf Tryd.prog 89 = some y89 := by kernel_rfl
/-- [64]uint8 -/
def y90 : Ty := ⟨.arr 64 5, 64, true, .agg #[.int .u8 0, .int .u8 0, .int .u8 0, .int .u8 0, .int .u8 0, .int .u8 0, .int .u8 0, .int .u8 0, .int .u8 0, .int .u8 0, .int .u8 0, .int .u8 0, .int .u8 0, .int .u8 0, .int .u8 0, .int .u8 0, .int .u8 0, .int .u8 0, .int .u8 0, .int .u8 0, .int .u8 0, .int .u8 0, .int .u8 0, .int .u8 0, .int .u8 0, .int .u8 0, .int .u8 0, .int .u8 0, .int .u8 0, .int .u8 0, .int .u8 0, .int .u8 0, .int .u8 0, .int .u8 0, .int .u8 0, .int .u8 0, .int .u8 0, .int .u8 0, .int .u8 0, .int .u8 0, .int .u8 0, .int .u8 0, .int .u8 0, .int .u8 0, .int .u8 0, .int .u8 0, .int .u8 0, .int .u8 0, .int .u8 0, .int .u8 0, .int .u8 0, .int .u8 0, .int .u8 0, .int .u8 0, .int .u8 0, .int .u8 0, .int .u8 0, .int .u8 0, .int .u8 0, .int .u8 0, .int .u8 0, .int .u8 0, .int .u8 0, .int .u8 0], 64⟩
theorem ty90 : tyOf Tryd.prog 90 = some y90 := by kernel_rfl
/-- sha256.Digest -/
def y92 : Ty := ⟨.stc [(0, 89), (8, 90), (72, 3), (73, 33), (74, 4)], 75, true, .agg #[.int .u32 0, .int .u32 0, .int .u32 0, .int .u32 0, .int .u32 0, .int .u32 0, .int .u32 0, .int .u32 0, .int .u8 0, .int .u8 0, .int .u8 0, .int .u8 0, .int .u8 0, .int .u8 0, .int .u8 0, .int .u8 0, .int .u8 0, .int .u8 0, .int .u8 0, .int .u8 0, .int .u8 0, .int .u8 0, .int .u8 0, .int .u8 0, .int .u8 0, .int .u8 0, .int .u8 0, .int .u8 0, .int .u8 0, .int .u8 0, .int .u8 0, .int .u8 0, .int .u8 0, .int .u8 0, .int .u8 0, .int .u8 0, .int .u8 0, .int .u8 0, .int .u8 0, .int .u8 0, .int .u8 0, .int .u8 0, .int .u8 0, .int .u8 0, .int .u8 0, .int .u8 0, .int .u8 0, .int .u8 0, .int .u8 0, .int .u8 0, .int .u8 0, .int .u8 0, .int .u8 0, .int .u8 0, .int .u8 0, .int .u8 0, .int .u8 0, .int .u8 0, .int .u8 0, .int .u8 0, .int .u8 0, .int .u8 0, .int .u8 0, .int .u8 0, .int .u8 0, .int .u8 0, .int .u8 0, .int .u8 0, .int .u8 0, .int .u8 0, .int .u8 0, .int .u8 0, .int .i64 0, .int .u64 0, .bool false], 120⟩
theorem ty92 : tyOf Tryd.prog 92 = some y92 := by kernel_rfl
/-- [72]uint8 -/
def y114 : Ty := ⟨.arr 72 5, 72, true, .agg #[.int .u8 0, .int .u8 0, .int .u8 0, .int .u8 0, .int .u8 0, .int .u8 0, .int .u8 0, .int .u8 0, .int .u8 0, .int .u8 0, .int .u8 0, .int .u8 0, .int .u8 0, .int .u8 0, .int .u8 0, .int .u8 0, .int .u8 0, .int .u8 0, .int .u8 0, .int .u8 0, .int .u8 0, .int .u8 0, .int .u8 0, .int .u8 0, .int .u8 0, .int .u8 0, .int .u8 0, .int .u8 0, .int .u8 0, .int .u8 0, .int .u8 0, .int .u8 0, .int .u8 0, .int .u8 0, .int .u8 0, .int .u8 0, .int .u8 0, .int .u8 0, .int .u8 0, .int .u8 0, .int .u8 0, .int .u8 0, .int .u8 0, .int .u8 0, .int .u8 0, .int .u8 0, .int .u8 0, .int .u8 0, .int .u8 0, .int .u8 0, .int .u8 0, .int .u8 0, .int .u8 0, .int .u8 0, .int .u8 0, .int .u8 0, .int .u8 0, .int .u8 0, .int .u8 0, .int .u8 0, .int .u8 0, .int .u8 0, .int .u8 0, .int .u8 0, .int .u8 0, .int .u8 0, .int .u8 0, .int .u8 0, .int .u8 0, .int .u8 0, .int .u8 0, .int .u8 0], 72⟩
theorem ty114 : tyOf Tryd.prog 114 = some y114 := by kernel_rfl

/-- function 83: (*crypto/internal/fips140/sha256.Digest).checkSum -/
def tys83 : Nat → Option Ty := fun t => find [(39, y39), (5, y5), (92, y92), (89, y89), (68, y68), (90, y90), (3, y3), (33, y33), (4, y4), (114, y114), (22, y22), (9, y9)] t
theorem ok83 : TysOk Tryd.prog tys83 := tysOk_of ⟨ty39, ty5, ty92, ty89, ty68, ty90, ty3, ty33, ty4, ty114, ty22, ty9, trivial⟩
end Go.Proofs.YtepfbdfbfimefaaDoor.Tysh
end
