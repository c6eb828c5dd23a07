/- The evaluator: arrays of whole numbers compared; bytes as strings; blocks of whole numbers. -/
import Derived.Test.YtepfbdfbfimefaaDoorSx
import Derived.Laws.StructEq
set_option linter.unusedSimpArgs false
set_option linter.unusedVariables false
namespace Go.Se
open Go

theorem all_range_int : ∀ (xs ys : List Int), xs.length = ys.length → ((List.range xs.length).all fun i => xs.getD i 0 == ys.getD i 0) = (xs == ys)
  | [], [], _ => rfl
  | x :: xs, y :: ys, h => by
    have ih := all_range_int xs ys (by simpa using h)
    rw [List.length_cons, List.range_succ_eq_map, List.all_cons, List.all_map]
    simp only [List.getD_cons_zero, Function.comp_def, List.getD_cons_succ, ih]
    simp [List.cons_beq_cons]
  | [], _ :: _, h => by simp at h
  | _ :: _, [], h => by simp at h

theorem run_equalIn_ints {P : Program} (w : World) (d : Nat) (t e : TypeId) (n : Nat) (k : IntKind) (ht : P.underlying t = some (.array n e)) (he : P.underlying e = some (.int k)) (hsz : ∀ w, (sizeOf e).run P w = .ok 1 w)
    (xs ys : List Int) (hx : xs.length = n) (hy : ys.length = n) :
    (Op.equalIn (d + 2) t (.agg (ints k xs).toArray) (.agg (ints k ys).toArray)).run P w = .ok (xs == ys) w := by
  rw [← all_range_int xs ys (hx.trans hy.symm), hx, List.range_eq_range', Op.equalIn]
  simp only [Sem.run_bind, run_underlying ht, Result.andThen_ok, hsz, Std.Legacy.Range.forIn_eq_forIn_range', Std.Legacy.Range.size, Nat.sub_zero, Nat.add_sub_cancel, Nat.div_one]
  have hl : ∀ i ∈ List.range' 0 n 1, i < n := fun i hi => by simpa using (List.mem_range'_1.1 hi).2
  generalize List.range' 0 n 1 = l at hl ⊢
  induction l with
  | nil => simp
  | cons i l ih =>
    have hi : i < n := hl i (by simp)
    have px : (part e (ints k xs).toArray (i * 1)).run P w = .ok (.int k (xs.getD i 0)) w := by
      simp [part, isAgg, run_underlying he, List.getD, ints, List.getElem?_eq_getElem (show i < xs.length by omega)]
    have py : (part e (ints k ys).toArray (i * 1)).run P w = .ok (.int k (ys.getD i 0)) w := by
      simp [part, isAgg, run_underlying he, List.getD, ints, List.getElem?_eq_getElem (show i < ys.length by omega)]
    have pe : (Op.equalIn (d + 1) e (.int k (xs.getD i 0)) (.int k (ys.getD i 0))).run P w = .ok (xs.getD i 0 == ys.getD i 0) w := run_equalIn_int w d e k k _ _ he
    simp only [List.forIn_cons, Sem.run_bind, px, py, pe, Result.andThen_ok, List.all_cons]
    cases hb : (xs.getD i 0 == ys.getD i 0)
    · simp
    · simp only [Bool.not_true, Bool.false_eq_true, if_false, Sem.run_pure, Result.andThen_ok, Bool.true_and]
      exact ih fun j hj => hl j (by simp [hj])

section
variable {P : Program} {o : Oper} {ev : Operand → Value} {K : Value → Prop} {T e n t2 : Nat} {k : IntKind} {x y : Operand} {yT yE : Ty}

theorem run_binOp_ints (hT : tyOf P T = some yT) (hd : yT.d = .arr n e) (hE : tyOf P e = some yE) (hk : yE.d = .int k) (h1 : yE.size = 1) (w : World) (xs ys : List Int) (hx : xs.length = n) (hy : ys.length = n) :
    (Op.equalIn 10000 T (.agg (ints k xs).toArray) (.agg (ints k ys).toArray)).run P w = .ok (xs == ys) w := by
  obtain ⟨i1, d1, _, hu1, _, _, ht1, _⟩ := tyOf_parts hT
  obtain ⟨i2, d2, hi2, hu2, _, hs2, ht2, _⟩ := tyOf_parts hE
  rw [hd] at ht1
  rw [hk] at ht2
  obtain rfl := td_arr ht1
  obtain rfl := td_int ht2
  exact run_equalIn_ints w 9998 T e n k hu1 hu2 (fun w => by rw [run_size hi2, hs2, h1]) xs ys hx hy

/-- Two arrays of whole numbers: are they the same. -/
theorem raw_eql (ho : o.op = .binOp .eql T x y t2) (hg : P.eqGuardType P.depth T = false) (hT : tyOf P T = some yT) (hd : yT.d = .arr n e) (hE : tyOf P e = some yE) (hk : yE.d = .int k) (h1 : yE.size = 1)
    (xs ys : List Int) (lx : xs.length = n) (ly : ys.length = n) (hx : ev x = .agg (ints k xs).toArray) (hy : ev y = .agg (ints k ys).toArray) (hK : ∀ b : Bool, (b = true ↔ xs = ys) → K (.bool b)) : RawP P o ev K := by
  refine ⟨.bool (xs == ys), fun w => ?_, hK _ (by simp)⟩
  unfold execOp
  rw [ho]
  simp only [hx, hy]
  have h := run_eql_struct (P := P) w T (ints k xs).toArray (ints k ys).toArray
  rw [run_binOp_ints hT hd hE hk h1 w xs ys lx ly] at h
  exact run_v (run_bin (fun w => run_eqGuard_agg w .eql T x y _ _ hg) (fun w => by
    have h := run_eql_struct (P := P) w T (ints k xs).toArray (ints k ys).toArray
    rw [run_binOp_ints hT hd hE hk h1 w xs ys lx ly] at h
    exact h) w)

/-- Two arrays of whole numbers: are they not the same. -/
theorem raw_neq (ho : o.op = .binOp .neq T x y t2) (hg : P.eqGuardType P.depth T = false) (hT : tyOf P T = some yT) (hd : yT.d = .arr n e) (hE : tyOf P e = some yE) (hk : yE.d = .int k) (h1 : yE.size = 1)
    (xs ys : List Int) (lx : xs.length = n) (ly : ys.length = n) (hx : ev x = .agg (ints k xs).toArray) (hy : ev y = .agg (ints k ys).toArray) (hK : ∀ b : Bool, (b = true ↔ xs ≠ ys) → K (.bool b)) : RawP P o ev K := by
  refine ⟨.bool (!(xs == ys)), fun w => ?_, hK _ (by simp)⟩
  unfold execOp
  rw [ho]
  simp only [hx, hy]
  exact run_v (run_bin (fun w => run_eqGuard_agg w .neq T x y _ _ hg) (fun w => by
    have h := run_neq_struct (P := P) w T (ints k xs).toArray (ints k ys).toArray
    rw [run_binOp_ints hT hd hE hk h1 w xs ys lx ly] at h
    exact h) w)
end

/-- Whole numbers that are bytes, as bytes. -/
theorem bytes_of_ints {xs : List Int} (h : ∀ x ∈ xs, (Lit.int .u8 x).wf = true) : ∃ bs : ByteArray, byteCells bs = ints .u8 xs := by
  refine ⟨⟨(xs.map fun x => UInt8.ofNat x.toNat).toArray⟩, ?_⟩
  simp only [byteCells, ints, List.map_map]
  apply List.map_congr_left
  intro x hx
  have := wf_u8 (h x hx)
  simp only [Function.comp]
  congr 1
  rw [UInt8.toNat_ofNat']
  omega

theorem byteCells_inj {a b : ByteArray} (h : byteCells a = byteCells b) : a = b := by
  simp only [byteCells] at h
  have h2 : a.data.toList = b.data.toList := by
    have hinj : Function.Injective (fun b : UInt8 => Value.int .u8 b.toNat) := fun x y hxy => by
      simp only [Value.int.injEq, true_and] at hxy
      exact UInt8.toNat_inj.1 (by omega)
    exact (List.map_inj_right (fun x y hxy => hinj hxy)).1 h
  obtain ⟨⟨x⟩⟩ := a
  obtain ⟨⟨y⟩⟩ := b
  simp at h2
  subst h2
  rfl

theorem ints_inj {k : IntKind} {xs ys : List Int} (h : ints k xs = ints k ys) : xs = ys := by
  unfold ints at h
  exact (List.map_inj_right (fun x y hxy => by simpa using hxy)).1 h

theorem RI.str {s : St} {a : Option Addr} {n c : Nat} {xs : List Int} (h : RI s.R .u8 a n xs) {K : ByteArray → Prop} (hk : ∀ bs : ByteArray, byteCells bs = ints .u8 xs → K bs) : StrP s (.v (.slice a n c)) K := by
  obtain ⟨bs, hb⟩ := bytes_of_ints h.wf
  exact ⟨n, _, bs, h.src, hb.symm, hk bs hb⟩

/-- A part of a slice. -/
theorem RI.part {R : RO} {k : IntKind} {a : Option Addr} {n : Nat} {xs : List Int} (h : RI R k a n xs) {l m : Nat} (hl : l ≤ m) (hm : m ≤ n) : RI R k (a.map (·.add (l * 1))) (m - l) ((xs.drop l).take (m - l)) := by
  have hlen := h.len
  refine ⟨by simp; omega, fun i h0 h1 => ?_, fun x hx => h.wf x (List.mem_of_mem_drop (List.mem_of_mem_take hx))⟩
  obtain ⟨j, rfl⟩ := Int.eq_ofNat_of_zero_le h0
  obtain ⟨h2, h3⟩ := h.at_ (l + j) (by omega) (by omega)
  obtain ⟨ad, rfl⟩ := Option.isSome_iff_exists.1 h2
  refine ⟨rfl, ?_⟩
  have e : Ar.real.elem (Option.map (fun x => x.add (l * 1)) (some ad)) (j : Int) 1 = Ar.real.elem (some ad) (l + j) 1 := by
    show (ad.add (l * 1)).add ((j : Int).toNat * 1) = ad.add (((l : Int) + (j : Int)).toNat * 1)
    rw [add_add]
    congr 1
    omega
  rw [e, h3]
  congr 2
  simp only [List.getD_eq_getElem?_getD, List.getElem?_take, List.getElem?_drop]
  rw [if_pos (by omega)]
  congr 2

theorem RI.part' {R : RO} {k : IntKind} {a a' : Option Addr} {n n' c : Nat} {xs : List Int} (h : RI R k a n xs) {l m : Nat} (hl : l ≤ m) (hm : m ≤ n) (hn : n' = m - l) (hc : n ≤ c) (ha : a' = if c = l then a else a.map (·.add (l * 1))) :
    RI R k a' n' ((xs.drop l).take (m - l)) := by
  subst hn ha
  split
  · rename_i he
    have : m - l = 0 := by omega
    rw [this, List.take_zero]
    exact ⟨rfl, fun i h0 h1 => absurd h1 (by omega), fun x hx => by cases hx⟩
  · exact h.part hl hm

/-- A block of whole numbers that is told of. -/
theorem RI.blk {R : RO} {k : IntKind} {b T : Nat} {xs : List Int} (h : R b = some (.cells (ints k xs).toArray T (0, 0))) (hw : ∀ x ∈ xs, (Lit.int k x).wf = true) : RI R k (some ⟨b, 0, none⟩) xs.length xs := by
  refine ⟨rfl, fun i h0 h1 => ⟨rfl, ?_⟩, hw⟩
  show rcell R (Addr.add ⟨b, 0, none⟩ (i.toNat * 1)) = _
  rw [cell_add]
  simp only [rcell, h]
  have := ints_get (k := k) (j := i.toNat) (xs := xs) (by omega)
  simpa using this

section
variable {bin : BinOp → IntKind → Int → Int → Int} {cmp : BinOp → Int → Int → Bool} {cnv : IntKind → Int → Int} {neg : IntKind → Int → Int} {com : IntKind → Int → Int} {bnot : Bool → Bool} {beq : Bool → Bool → Bool} {ofN : Nat → Int} {toN : Int → Nat} {at_ : Nat → Nat → Nat → Nat} {sub_ : Nat → Nat → Nat} {scmp : BinOp → ByteArray → ByteArray → Bool} {cat : ByteArray → ByteArray → ByteArray} {sget : ByteArray → Int → Int} {ssz : ByteArray → Nat} {ssub : ByteArray → Nat → Nat → ByteArray} {elem : Option Addr → Int → Nat → Addr} {fld_ : Addr → Nat → Addr}
  (hA : (⟨bin, cmp, cnv, neg, com, bnot, beq, ofN, toN, at_, sub_, scmp, cat, sget, ssz, ssub, elem, fld_⟩ : Ar) = Ar.real)
include hA

theorem scmp_eql {a b : ByteArray} {xs ys : List Int} (h : byteCells a = ints .u8 xs) (h2 : byteCells b = ints .u8 ys) : scmp .eql a b = decide (xs = ys) := by
  have e : scmp .eql a b = (a.toList == b.toList) := by rw [scmp_is hA]; rfl
  rw [e]
  by_cases he : xs = ys
  · subst he
    rw [decide_eq_true rfl, byteCells_inj (h.trans h2.symm)]
    exact beq_self_eq_true _
  · rw [decide_eq_false he]
    cases hb : a.toList == b.toList with
    | false => rfl
    | true =>
      have h3 := eq_of_beq hb
      rw [ByteArray.toList_eq, ByteArray.toList_eq] at h3
      have : byteCells a = byteCells b := by unfold byteCells; rw [h3]
      exact absurd (ints_inj (h.symm.trans (this.trans h2))) he
end
end Go.Se
