/- Texts of base58: plain. -/
/- Strings as lists of bytes. -/
/- The types that some functions name, as the evaluator wants them. Printed by a program of my own (seatgen.py). -/
/- The reference: bytes in base 58. -/
/- The types that some functions name, as the evaluator wants them. Printed by a program of my own (seatgen.py). -/
/- The package: bytes in base 58. -/
import Derived.Test.YtepfbdfbfimefaaDoorMTyee
import Derived.Test.YtepfbdfbfimefaaDoorSu
import Derived.Test.YtepfbdfbfimefaaDoorSl
import Derived.Test.YtepfbdfbfimefaaDoorProg
import Derived.KernelRfl
import Derived.Test.YtepfbdfbfimefaaDoorBfe
section
set_option linter.unusedSimpArgs false
set_option linter.unusedVariables false
namespace Go.Proofs.YtepfbdfbfimefaaDoor.Bf
open Go Go.Se Go.Proofs.YtepfbdfbfimefaaDoor.Co Go.Proofs.YtepfbdfbfimefaaDoor.Ht

/-- A number's digits in base 58, the lowest first. -/
def dsL (v : Nat) : List Nat := if h : v = 0 then [] else v % 58 :: dsL (v / 58)
termination_by v
decreasing_by omega

theorem dsL0 : dsL 0 = [] := by rw [dsL]; rfl
theorem dsLS {v : Nat} (h : v ≠ 0) : dsL v = v % 58 :: dsL (v / 58) := by rw [dsL, dif_neg h]

/-- The lowest digits, some of them. -/
def dsN : Nat → Nat → List Nat
  | 0, _ => []
  | k + 1, m => m % 58 :: dsN k (m / 58)

theorem dsN_L : ∀ (k m : Nat), m / 58 ^ k ≠ 0 → dsN k m ++ dsL (m / 58 ^ k) = dsL m
  | 0, m, _ => by simp [dsN]
  | k + 1, m, h => by
    have e : m / 58 ^ (k + 1) = m / 58 / 58 ^ k := by rw [Nat.pow_succ, Nat.mul_comm, Nat.div_div_eq_div_mul]
    have h0 : m ≠ 0 := fun e0 => h (by rw [e0]; exact Nat.zero_div _)
    rw [e] at h ⊢
    rw [dsN, List.cons_append, dsN_L k (m / 58) h, dsLS h0]

theorem dsN_mod : ∀ (k m : Nat), dsN k (m % 58 ^ k) = dsN k m
  | 0, _ => rfl
  | k + 1, m => by
    have e1 : m % 58 ^ (k + 1) % 58 = m % 58 := by
      rw [Nat.pow_succ, Nat.mul_comm]
      exact Nat.mod_mul_right_mod m 58 (58 ^ k)
    have e2 : m % 58 ^ (k + 1) / 58 = m / 58 % 58 ^ k := by
      rw [Nat.pow_succ, Nat.mul_comm]
      exact Nat.mod_mul_right_div_self m 58 (58 ^ k)
    rw [dsN, dsN, e1, e2, dsN_mod k]

theorem dsL_big {v : Nat} (h : v / 58 ^ 10 ≠ 0) : dsL v = dsN 10 (v % 58 ^ 10) ++ dsL (v / 58 ^ 10) := by rw [dsN_mod, dsN_L 10 v h]

theorem dsL_lt : ∀ (v : Nat), ∀ d ∈ dsL v, d < 58 := by
  intro v
  induction v using Nat.strongRecOn with
  | _ v ih =>
    intro d hd
    by_cases h : v = 0
    · rw [h, dsL0] at hd; cases hd
    · rw [dsLS h] at hd
      rcases List.mem_cons.1 hd with rfl | hd
      · exact Nat.mod_lt _ (by decide)
      · exact ih _ (by omega) d hd

theorem dsN_lt : ∀ (k m : Nat), ∀ d ∈ dsN k m, d < 58
  | 0, _, d, h => by cases h
  | k + 1, m, d, h => by
    rcases List.mem_cons.1 h with rfl | h
    · exact Nat.mod_lt _ (by decide)
    · exact dsN_lt k _ d h

/-- How many digits there are at most. -/
theorem dsL_len : ∀ (k v : Nat), v < 58 ^ k → (dsL v).length ≤ k
  | 0, v, h => by have : v = 0 := by simpa using h
                  rw [this, dsL0]; exact Nat.le_refl _
  | k + 1, v, h => by
    by_cases h0 : v = 0
    · rw [h0, dsL0]; exact Nat.zero_le _
    · rw [dsLS h0, List.length_cons]
      have := dsL_len k (v / 58) (by rw [Nat.div_lt_iff_lt_mul (by decide), ← Nat.pow_succ]; exact h)
      omega

/-- The value of digits, the highest first. -/
def hv (l : List Nat) (a : Nat) : Nat := l.foldl (fun a d => a * 58 + d) a

theorem hv_app (l m : List Nat) (a : Nat) : hv (l ++ m) a = hv m (hv l a) := by unfold hv; rw [List.foldl_append]
theorem hv_snoc (l : List Nat) (d a : Nat) : hv (l ++ [d]) a = hv l a * 58 + d := by rw [hv_app]; rfl

theorem hv_shift : ∀ (l : List Nat) (a : Nat), hv l a = a * 58 ^ l.length + hv l 0
  | [], a => by simp [hv]
  | d :: l, a => by
    have e1 : hv (d :: l) a = hv l (a * 58 + d) := rfl
    have e2 : hv (d :: l) 0 = hv l (0 * 58 + d) := rfl
    rw [e1, e2, hv_shift l (a * 58 + d), hv_shift l (0 * 58 + d), List.length_cons, Nat.pow_succ, Nat.add_mul, Nat.add_mul, Nat.zero_mul, Nat.zero_add, Nat.mul_assoc, Nat.mul_comm 58 (58 ^ l.length), Nat.add_assoc]

theorem hv_lt : ∀ {l : List Nat}, (∀ d ∈ l, d < 58) → hv l 0 < 58 ^ l.length
  | [], _ => by decide
  | d :: l, h => by
    have e2 : hv (d :: l) 0 = hv l (0 * 58 + d) := rfl
    have ih := hv_lt (l := l) fun x hx => h x (List.mem_cons_of_mem _ hx)
    have hd := h d (List.mem_cons_self ..)
    rw [e2, hv_shift, List.length_cons, Nat.pow_succ, Nat.zero_mul, Nat.zero_add]
    have h1 : d * 58 ^ l.length ≤ 57 * 58 ^ l.length := Nat.mul_le_mul_right _ (by omega)
    omega

theorem hv_dsL (v : Nat) : hv (dsL v).reverse 0 = v := by
  induction v using Nat.strongRecOn with
  | _ v ih =>
    by_cases h : v = 0
    · rw [h, dsL0]; rfl
    · rw [dsLS h, List.reverse_cons, hv_snoc, ih _ (by omega)]
      omega

theorem hv_zeros (n : Nat) (l : List Nat) : hv (List.replicate n 0 ++ l) 0 = hv l 0 := by
  induction n with
  | zero => rfl
  | succ n ih => rw [List.replicate_succ]; exact ih

/-- The digits' bytes. -/
def alph : List Int := [49, 50, 51, 52, 53, 54, 55, 56, 57, 65, 66, 67, 68, 69, 70, 71, 72, 74, 75, 76, 77, 78, 80, 81, 82, 83, 84, 85, 86, 87, 88, 89, 90, 97, 98, 99, 100, 101, 102, 103, 104, 105, 106, 107, 109, 110, 111, 112, 113, 114, 115, 116, 117, 118, 119, 120, 121, 122]
def ch (d : Nat) : Int := alph.getD d 0
/-- What a byte stands for; 255: nothing. -/
def dv (x : Int) : Nat := let i := alph.findIdx (· = x); if i < 58 then i else 255

theorem alph_get {d : Nat} (h : d < 58) : alph[d]? = some (ch d) := by
  unfold ch
  exact getD_get h

theorem dv_ch : ∀ d, d < 58 → dv (ch d) = d := by decide
theorem ch_one : ∀ d, d < 58 → ch d = 49 → d = 0 := by decide
theorem ch_bd : ∀ d, d < 58 → 49 ≤ ch d ∧ ch d ≤ 122 := by decide
theorem dv_lt {x : Int} (h : dv x ≠ 255) : dv x < 58 := by
  unfold dv at *
  simp only at *
  split at h
  · rename_i h1; rw [if_pos h1]; exact h1
  · exact absurd rfl h
theorem ch_dv {x : Int} (h : dv x ≠ 255) : ch (dv x) = x := by
  have h1 := dv_lt h
  have h2 : dv x = alph.findIdx (· = x) := by
    unfold dv at *
    simp only at *
    split at h
    · rename_i h1; rw [if_pos h1]
    · exact absurd rfl h
  rw [h2] at h1 ⊢
  have h3 := List.findIdx_getElem (xs := alph) (p := (· = x)) (w := h1)
  unfold ch
  rw [List.getD_eq_getElem?_getD, List.getElem?_eq_getElem h1]
  simpa using h3

theorem dv_big {x : Int} (h : 123 ≤ x) : dv x = 255 := by
  by_cases h1 : dv x = 255
  · exact h1
  · have h2 := ch_bd _ (dv_lt h1)
    rw [ch_dv h1] at h2
    omega

/-- A text's digits, whether all of its bytes are digits, its value, its ones ahead. -/
def Good (xs : List Int) : Prop := ∀ x ∈ xs, dv x ≠ 255
def hx (xs : List Int) : Nat := hv (xs.map dv) 0
def ones : List Int → Nat
  | [] => 0
  | x :: r => if x = 49 then ones r + 1 else 0
def zs0 : List Int → Nat
  | [] => 0
  | x :: r => if x = 0 then zs0 r + 1 else 0

theorem ones_le : ∀ xs : List Int, ones xs ≤ xs.length
  | [] => Nat.le_refl _
  | x :: r => by have := ones_le r; rw [ones, List.length_cons]; split <;> omega

/-- What a text stands for. -/
def dec (xs : List Int) : List Int := List.replicate (ones xs) 0 ++ (dl (hx xs)).reverse
/-- Bytes as a text. -/
def enc (xs : List Int) : List Int := List.replicate (zs0 xs) 49 ++ ((dsL (be xs)).map ch).reverse

theorem hx_snoc (xs : List Int) (x : Int) : hx (xs ++ [x]) = hx xs * 58 + dv x := by
  unfold hx
  rw [List.map_append, List.map_singleton, hv_snoc]

theorem hx_app (xs ys : List Int) : hx (xs ++ ys) = hx xs * 58 ^ ys.length + hx ys := by
  unfold hx
  rw [List.map_append, hv_app, hv_shift, List.length_map]

theorem good_lt {xs : List Int} (h : Good xs) : hx xs < 58 ^ xs.length := by
  have := hv_lt (l := xs.map dv) fun d hd => by
    obtain ⟨x, hx, rfl⟩ := List.mem_map.1 hd
    exact dv_lt (h x hx)
  rwa [List.length_map] at this

theorem good_app {xs ys : List Int} (h : Good xs) (k : Good ys) : Good (xs ++ ys) := fun x hx => (List.mem_append.1 hx).elim (h x) (k x)
theorem good_nil : Good [] := fun x hx => by cases hx
theorem good_one {x : Int} (h : dv x ≠ 255) : Good [x] := fun y hy => by rw [List.mem_singleton.1 hy]; exact h

theorem zs0_split : ∀ xs : List Int, ∃ t, xs = List.replicate (zs0 xs) 0 ++ t ∧ (t = [] ∨ t.headD 0 ≠ 0)
  | [] => ⟨[], rfl, .inl rfl⟩
  | x :: r => by
    rw [zs0]
    split
    · rename_i h
      obtain ⟨t, h1, h2⟩ := zs0_split r
      exact ⟨t, by rw [List.replicate_succ, List.cons_append, ← h1, h], h2⟩
    · rename_i h
      exact ⟨x :: r, rfl, .inr (by simpa using h)⟩

theorem be_zeros (n : Nat) (t : List Int) : be (List.replicate n 0 ++ t) = be t := by
  induction n with
  | zero => rfl
  | succ n ih => rw [List.replicate_succ, List.cons_append, be_cons, ih]; simp

/-- Bytes are the zeros ahead and the number's bytes. -/
theorem zs0_be {xs : List Int} (h : By xs) : xs = List.replicate (zs0 xs) 0 ++ (dl (be xs)).reverse := by
  obtain ⟨t, h1, h2⟩ := zs0_split xs
  have h3 : be xs = be t := by rw [h1]; exact be_zeros _ _
  have h4 : t = (dl (be t)).reverse := by
    refine be_dl (fun y hy => h y (by rw [h1]; exact List.mem_append_right _ hy)) ?_
    rcases h2 with h2 | h2
    · exact .inl h2
    · exact .inr h2
  rw [h3, ← h4]
  exact h1

theorem ones_enc (n : Nat) (t : List Int) (h : t = [] ∨ t.getD 0 0 ≠ 49) : ones (List.replicate n 49 ++ t) = n := by
  induction n with
  | zero =>
    rcases h with h | h
    · rw [h]; rfl
    · cases t with
      | nil => rfl
      | cons x r => show ones (x :: r) = 0; rw [ones, if_neg (by simpa using h)]
  | succ n ih => rw [List.replicate_succ, List.cons_append, ones, if_pos rfl, ih]

theorem dsL_last (v : Nat) (h : v ≠ 0) : (dsL v).getLastD 0 ≠ 0 := by
  induction v using Nat.strongRecOn with
  | _ v ih =>
    rw [dsLS h]
    by_cases h1 : v / 58 = 0
    · rw [h1, dsL0]
      show v % 58 ≠ 0
      omega
    · have := ih _ (by omega) h1
      have h2 : dsL (v / 58) ≠ [] := by rw [dsLS h1]; exact List.cons_ne_nil _ _
      obtain ⟨d, r, hd⟩ := List.exists_cons_of_ne_nil h2
      rw [hd] at this ⊢
      exact this

theorem enc_good (xs : List Int) : Good (enc xs) := by
  refine good_app (fun x hx => ?_) fun x hx => ?_
  · rw [List.eq_of_mem_replicate hx]; decide
  · obtain ⟨d, hd, rfl⟩ := List.mem_map.1 (List.mem_reverse.1 hx)
    have := dsL_lt _ d hd
    rw [dv_ch d this]
    omega

theorem dv_map : ∀ {l : List Nat}, (∀ d ∈ l, d < 58) → (l.map ch).map dv = l
  | [], _ => rfl
  | d :: l, h => by rw [List.map_cons, List.map_cons, dv_ch d (h d (List.mem_cons_self ..)), dv_map fun x hx => h x (List.mem_cons_of_mem _ hx)]

theorem hx_enc (xs : List Int) : hx (enc xs) = be xs := by
  unfold enc
  rw [hx, List.map_append, List.map_replicate, show dv 49 = 0 by decide, hv_zeros, List.map_reverse, dv_map (dsL_lt _), hv_dsL]

/-- What is written is read again. -/
theorem dec_enc {xs : List Int} (h : By xs) : dec (enc xs) = xs := by
  rw [dec, hx_enc]
  have e : ones (enc xs) = zs0 xs := by
    refine ones_enc _ _ ?_
    by_cases h0 : be xs = 0
    · rw [h0, dsL0]; exact .inl rfl
    · refine .inr fun h1 => ?_
      have h2 := dsL_last _ h0
      have h3 : dsL (be xs) ≠ [] := by rw [dsLS h0]; exact List.cons_ne_nil _ _
      obtain ⟨l, d, hd⟩ : ∃ l d, dsL (be xs) = l ++ [d] := ⟨_, _, (List.dropLast_concat_getLast h3).symm⟩
      have h4 : d < 58 := dsL_lt _ d (by rw [hd]; simp)
      rw [hd] at h1 h2
      rw [List.map_append, List.reverse_append] at h1
      refine h2 ?_
      have h5 : ch d = 49 := by simpa using h1
      rw [ch_one d h4 h5]
      simp
  rw [e]
  exact (zs0_be h).symm
end Go.Proofs.YtepfbdfbfimefaaDoor.Bf
end
section
set_option linter.unusedSimpArgs false
set_option linter.unusedVariables false
namespace Go.Se
open Go

/-- A string's bytes. -/
def SB (b : ByteArray) (xs : List Int) : Prop := byteCells b = ints .u8 xs

theorem SB.size {b : ByteArray} {xs : List Int} (h : SB b xs) : b.size = xs.length := by
  have := congrArg List.length h
  rw [ints_len] at this
  simpa [byteCells] using this

theorem SB.app {a b : ByteArray} {xs ys : List Int} (h : SB a xs) (k : SB b ys) : SB (a ++ b) (xs ++ ys) := by
  unfold SB at *
  have e : byteCells (a ++ b) = byteCells a ++ byteCells b := by
    unfold byteCells
    rw [← List.map_append]
    congr 1
  rw [e, h, k]
  simp [ints]

theorem SB.ext {b : ByteArray} {xs : List Int} (h : SB b xs) (l m : Nat) : SB (b.extract l m) ((xs.drop l).take (m - l)) := by
  unfold SB at *
  have e : byteCells (b.extract l m) = ((byteCells b).drop l).take (m - l) := by
    unfold byteCells
    rw [← List.map_drop, ← List.map_take]
    congr 1
    rw [ByteArray.data_extract, Array.toList_extract]
  rw [e, h]
  simp [ints, List.map_drop, List.map_take]

theorem SB.inj {b : ByteArray} {xs ys : List Int} (h : SB b xs) (k : SB b ys) : xs = ys := ints_inj (h.symm.trans k)

section
variable {bin : BinOp → IntKind → Int → Int → Int} {cmp : BinOp → Int → Int → Bool} {cnv : IntKind → Int → Int} {neg : IntKind → Int → Int} {com : IntKind → Int → Int} {bnot : Bool → Bool} {beq : Bool → Bool → Bool} {ofN : Nat → Int} {toN : Int → Nat} {at_ : Nat → Nat → Nat → Nat} {sub_ : Nat → Nat → Nat} {scmp : BinOp → ByteArray → ByteArray → Bool} {cat : ByteArray → ByteArray → ByteArray} {sget : ByteArray → Int → Int} {ssz : ByteArray → Nat} {ssub : ByteArray → Nat → Nat → ByteArray} {elem : Option Addr → Int → Nat → Addr} {fld_ : Addr → Nat → Addr}
  (hA : (⟨bin, cmp, cnv, neg, com, bnot, beq, ofN, toN, at_, sub_, scmp, cat, sget, ssz, ssub, elem, fld_⟩ : Ar) = Ar.real)
include hA

theorem sb_cat {a b : ByteArray} {xs ys : List Int} (h : SB a xs) (k : SB b ys) : SB (cat a b) (xs ++ ys) := by
  rw [cat_is hA]
  exact h.app k

theorem sb_get {b : ByteArray} {xs : List Int} (h : SB b xs) {i : Int} {d : Int} (j : Nat) (hj : i = j) (hd : xs[j]? = some d) : sget b i = d := by
  rw [sget_is hA, hj]
  have h1 : (byteCells b)[j]? = some (.int .u8 d) := by rw [h]; simp [ints, hd]
  unfold byteCells at h1
  rw [List.getElem?_map, Option.map_eq_some_iff] at h1
  obtain ⟨x, hx, hxd⟩ := h1
  show ((b[((j : Int)).toNat]?).map fun b => (b.toNat : Int)).getD 0 = d
  have h2 : b[((j : Int)).toNat]? = some x := by
    rw [Int.toNat_natCast]
    rw [← hx]
    simp
    rfl
  rw [h2]
  simp only [Value.int.injEq, true_and] at hxd
  exact hxd
end

end Go.Se
end
section
namespace Go.Proofs.YtepfbdfbfimefaaDoor.Tyef
open Go Go.Se Go.Proofs

/-- int -/
def y3 : Ty := ⟨.int .i64, 1, false, .int .i64 0, 8⟩
theorem ty3 : tyOf Tryd.prog 3 = some y3 := by kernel_rfl
/-- uint8 -/
def y5 : Ty := ⟨.int .u8, 1, false, .int .u8 0, 1⟩
theorem ty5 : tyOf Tryd.prog 5 = some y5 := by kernel_rfl
/-- string -/
def y9 : Ty := ⟨.str, 1, false, .string ByteArray.empty, 16⟩
theorem ty9 : tyOf Tryd.prog 9 = some y9 := by kernel_rfl
/-- []uint8 -/
def y22 : Ty := ⟨.slc 5, 1, false, .slice none 0 0, 24⟩
theorem ty22 : tyOf Tryd.prog 22 = some y22 := by kernel_rfl
/-- uint64 -/
def y33 : Ty := ⟨.int .u64, 1, false, .int .u64 0, 8⟩
theorem ty33 : tyOf Tryd.prog 33 = some y33 := by kernel_rfl

/-- function 6: pub-mintmark/spec.Base58 -/
def tys6 : Nat → Option Ty := fun t => find [(22, y22), (5, y5), (3, y3), (33, y33), (9, y9)] t
theorem ok6 : TysOk Tryd.prog tys6 := tysOk_of ⟨ty22, ty5, ty3, ty33, ty9, trivial⟩

/-- function 14: pub-mintmark/spec.overSmall -/
def tys14 : Nat → Option Ty := fun t => find [(22, y22), (5, y5), (3, y3), (33, y33)] t
theorem ok14 : TysOk Tryd.prog tys14 := tysOk_of ⟨ty22, ty5, ty3, ty33, trivial⟩
end Go.Proofs.YtepfbdfbfimefaaDoor.Tyef
end
section
set_option linter.unusedSimpArgs false
set_option linter.unusedVariables false
namespace Go.Proofs.YtepfbdfbfimefaaDoor.Bf
open Go Go.Se Go.Proofs Go.Proofs.YtepfbdfbfimefaaDoor.Co Go.Proofs.YtepfbdfbfimefaaDoor.Ht Go.Proofs.YtepfbdfbfimefaaDoor.Tyef

structure Lo4 where
  i : Int
  l : Int
  a : Option Addr
  n : Nat
  c : Nat
  zs : List Value
  rs : List Row

set_option maxRecDepth 100000 in
set_option maxHeartbeats 1000000 in
/-- A great number over a small one. -/
theorem overR {P : Program} (hP : P = Tryd.prog) (R : RO) (a : Option Addr) (n c : Nat) (xs : List Int) (h : RI R .u8 a n xs) (hc : n ≤ c) (hn : n ≤ 10000) (B : Nat) (bi : Int) (hbi : bi = B) (hB : 1 ≤ B) (hBl : B < 281474976710656) :
    RetP P 14 [.slice a n c, .int .u64 bi] R fun R' r => ∃ a' n' c' l, r = .tuple #[.slice a' n' c', .int .u64 l] ∧ RI R' .u8 a' n' (dl (be xs / B)).reverse ∧ n' ≤ c' ∧ l = (be xs % B : Nat) := by
  subst hP
  have hl := h.len
  have hby := By.of_wf h.wf
  refine retP_vc (fz := []) Tryd.func14 rfl (by decide) rfl ok14 ?_
  intro P bin cmp cnv neg com bnot beq ofN toN at_ sub_ scmp cat sget ssz ssub elem fld_ hP hA
  conv => cbv
  have o := ofN_ hA n
  refine ⟨Lo4, fun x => ⟨[(8, .v (.int .i64 x.i)), (7, .v (.int .u64 x.l)), (6, .v (.slice x.a x.n x.c)), (0, .v (.slice a n c)), (1, .v (.int .u64 bi))], R, [], 0, x.rs⟩,
    fun m x => ∃ (i q : Nat) (ys : List Int), x.i = i ∧ i ≤ n ∧ m = n - i ∧ x.l = (q : Nat) ∧ q < B ∧ Base1 x.rs [] x.a x.n x.c 5 1 x.zs ∧ x.zs = ints .u8 ys ∧ x.n = ys.length ∧ x.n = i ∧ By ys ∧ be ys * B + q = be (xs.take i) ∧ (x.n ≠ 0 → x.a.isSome = true),
    ⟨n, ⟨0, 0, none, 0, 0, [], []⟩, ⟨⟨rfl, rfl, rfl, rfl, rfl, trivial⟩, rfl, trivial, rfl, .refl _⟩, 0, 0, [], rfl, by omega, rfl, rfl, by omega, Base1.nil, rfl, rfl, rfl, (fun x hx => by cases hx), by simp [be, lev], fun e => absurd rfl e⟩, ?_⟩
  rintro m ⟨ii, l, a1, n1, c1, zs, rs⟩ ⟨i, q, ys, hi, hin, hm, hq, hqB, hb, hzs, hn1, hn1i, hyb, hyv, hsm⟩
  simp only at hi hq hb hzs hn1 hn1i hsm
  conv => cbv
  by_cases hlt : i < n
  case neg =>
    refine br_f (by rw [o, cmp_lss hA]; simp; omega) ?_
    conv => cbv
    have hv : be ys = be xs / B := by
      rw [List.take_of_length_le (by omega)] at hyv
      rw [← hyv, Nat.mul_comm, Nat.mul_add_div (by omega), Nat.div_eq_of_lt hqB, Nat.add_zero]
    have hrm : l = (be xs % B : Nat) := by
      rw [List.take_of_length_le (by omega)] at hyv
      rw [hq, ← hyv, Nat.mul_comm, Nat.mul_add_mod, Nat.mod_eq_of_lt hqB]
    rcases hb with ⟨rfl, rfl, rfl, rfl, rfl⟩ | rfl
    · have hy0 : ys = [] := List.eq_nil_of_length_eq_zero (by omega)
      have hr1 : RI R .u8 none 0 ys := by rw [hy0]; exact RI.nil
      refine (trimP hP R none 0 0 ys hr1 (Nat.le_refl _) (by omega)).callP rfl ?_
      rintro R2 _ hR2 ⟨a', n', c', rfl, hr, hc'⟩
      conv => cbv
      intro ρ R'' hle _ _
      exact ⟨a', n', c', l, rfl, by rw [← hv]; exact hr.le hle, hc', hrm⟩
    · refine CallP.pub 0 rfl (fun R1 hR1 hp1 => ?_) ⟨_, by rw [hP]; exact Tryd.func13, by decide, rfl⟩
      have hr1 : RI R1 .u8 a1 n1 ys := hp1.ri hn1 hsm rfl hzs hyb.wf
      refine (trimP hP R1 a1 n1 c1 ys hr1 (hp1.cap_ (by show (1 : Nat) ≠ 4096; decide) hsm) (by omega)).callP rfl ?_
      rintro R2 _ hR2 ⟨a', n', c', rfl, hr, hc'⟩
      conv => cbv
      intro ρ R'' hle _ _
      exact ⟨a', n', c', l, rfl, by rw [← hv]; exact hr.le hle, hc', hrm⟩
  refine br_t (by rw [o, cmp_lss hA]; simp; omega) ?_
  conv => cbv
  refine ix_ri h o i hi hlt ?_
  refine ld_u8 hA h (by omega) (by omega) ?_
  intro d hd hd0 hd1
  have hd' : xs[i]? = some d := by rw [getD_get (by omega), hd]; congr 2; omega
  obtain ⟨D, hD⟩ : ∃ D : Nat, d = D := ⟨d.toNat, by omega⟩
  conv => cbv
  have e1 : bin .add .u64 (bin .mul .u64 l 256) (cnv .u64 d) = ((q * 256 + D : Nat) : Int) := by
    have e2 : bin .mul .u64 l 256 = ((q * 256 : Nat) : Int) := by rw [hq, mul_u64 hA (by omega)]; omega
    rw [e2, cnv_u64 hA (by omega), hD, add_u64 hA (by omega)]
    omega
  have hqd : (q * 256 + D) / B < 256 := by
    rw [Nat.div_lt_iff_lt_mul (by omega)]
    have : (q + 1) * 256 ≤ B * 256 := Nat.mul_le_mul_right _ hqB
    omega
  refine ⟨by omega, ?_⟩
  have e3 : bin .quo .u64 (bin .add .u64 (bin .mul .u64 l 256) (cnv .u64 d)) bi = (((q * 256 + D) / B : Nat) : Int) := by
    rw [e1, hbi, quo_u64 hA (by omega) (by omega) (by omega)]
    exact (Int.natCast_ediv _ _).symm
  have e4 : cnv .u8 (bin .quo .u64 (bin .add .u64 (bin .mul .u64 l 256) (cnv .u64 d)) bi) = (((q * 256 + D) / B : Nat) : Int) := by
    rw [e3]
    have h5 : ∀ Q : Nat, Q < 256 → cnv .u8 (Q : Int) = (Q : Int) := fun Q hQ => cnv_u8 hA (by omega)
    exact h5 _ hqd
  refine ⟨n1, zs, _, _, _, 1, [.int .u8 (cnv .u8 (bin .quo .u64 (bin .add .u64 (bin .mul .u64 l 256) (cnv .u64 d)) bi))], hb.base, .refl _, .own _ _ _ _ _ _ rfl rfl rfl (by simp [Value.oneCell']), by omega, by omega, ?_⟩
  intro a' n' c' zs' hn' hz' hs'
  conv => cbv
  refine ⟨by omega, ?_⟩
  have e5 : bin .rem .u64 (bin .add .u64 (bin .mul .u64 l 256) (cnv .u64 d)) bi = (((q * 256 + D) % B : Nat) : Int) := by
    rw [e1, hbi, rem_u64 hA (by omega)]
    exact (Int.natCast_emod _ _).symm
  refine ⟨n - (i + 1), ⟨bin .add .i64 ii 1, bin .rem .u64 (bin .add .u64 (bin .mul .u64 l 256) (cnv .u64 d)) bi, a', n', c', zs', _⟩, by omega, ⟨⟨rfl, rfl, rfl, rfl, rfl, trivial⟩, rfl, trivial, rfl, .refl _⟩, i + 1, (q * 256 + D) % B, ys ++ [(((q * 256 + D) / B : Nat) : Int)], by show bin .add .i64 ii 1 = _; rw [hi, add_i64 hA (by omega)]; rfl, by omega, rfl, e5, Nat.mod_lt _ (by omega), Base1.row, ?_, ?_, ?_, ?_, ?_, hs'⟩
  · show zs' = _
    rw [hz', hzs, e4, ← ints_app]
    rfl
  · show n' = _
    rw [hn', hn1, List.length_append]
    rfl
  · show n' = _
    omega
  · intro x hx
    rcases List.mem_append.1 hx with hx | hx
    · exact hyb x hx
    · simp only [List.mem_cons, List.not_mem_nil, or_false] at hx
      rw [hx]
      have h6 : ∀ Q : Nat, Q < 256 → 0 ≤ (Q : Int) ∧ (Q : Int) ≤ 255 := fun Q hQ => by omega
      exact h6 _ hqd
  · rw [be_app, be_take hd', ← hyv, hD, Int.toNat_natCast, Int.toNat_natCast]
    have h1 := Nat.div_add_mod (q * 256 + D) B
    rw [Nat.add_mul, Nat.mul_comm ((q * 256 + D) / B) B, Nat.mul_assoc]
    rw [Nat.add_mul, Nat.mul_assoc (be ys) B 256, Nat.mul_comm B 256, ← Nat.mul_assoc (be ys) 256 B, Nat.mul_comm (be ys) 256, Nat.mul_assoc]
    omega

theorem lit58 : SB ⟨#[49,50,51,52,53,54,55,56,57,65,66,67,68,69,70,71,72,74,75,76,77,78,80,81,82,83,84,85,86,87,88,89,90,97,98,99,100,101,102,103,104,105,106,107,109,110,111,112,113,114,115,116,117,118,119,120,121,122]⟩ alph := rfl
theorem lit1 : SB ⟨#[49]⟩ [49] := rfl
theorem lit0 : SB ⟨#[]⟩ [] := rfl

theorem alph_sub {d : Nat} (h : d < 58) : (alph.drop d).take (d + 1 - d) = [ch d] := by
  have h1 := alph_get h
  obtain ⟨h2, h3⟩ := List.getElem?_eq_some_iff.1 h1
  rw [List.drop_eq_getElem_cons h2, h3, show d + 1 - d = 1 by omega]
  rfl

theorem dsL_256 {v n : Nat} (h : v < 256 ^ n) : (dsL v).length ≤ 2 * n := by
  refine dsL_len _ _ (Nat.lt_of_lt_of_le h ?_)
  rw [Nat.pow_mul]
  exact Nat.pow_le_pow_left (by decide) n

structure Lb5 where
  R : RO
  a : Option Addr
  n : Nat
  c : Nat
  s : ByteArray

structure Lb6 where
  i : Int
  s : ByteArray

set_option maxRecDepth 100000 in
set_option maxHeartbeats 2000000 in
theorem base58S {P : Program} (hP : P = Tryd.prog) (R : RO) (a : Option Addr) (n c : Nat) (xs : List Int) (h : RI R .u8 a n xs) (hc : n ≤ c) (hn : n ≤ 1000) :
    RetP P 6 [.slice a n c] R fun _ r => ∃ s, r = .string s ∧ SB s (enc xs) := by
  subst hP
  have hl := h.len
  have hby := By.of_wf h.wf
  have hV : be xs < 256 ^ n := by rw [hl]; exact be_lt hby
  refine retP_vc (fz := []) Tryd.func6 rfl (by decide) rfl ok6 ?_
  intro P bin cmp cnv neg com bnot beq ofN toN at_ sub_ scmp cat sget ssz ssub elem fld_ hP hA
  conv => cbv
  have o := ofN_ hA n
  refine (trimP hP R a n c xs h hc (by omega)).callP rfl ?_
  rintro R1 _ hR1 ⟨a1, n1, c1, rfl, hr1, hc1⟩
  conv => cbv
  have hz := congrArg List.length (zs0_be hby)
  rw [List.length_append, List.length_replicate, ← hr1.len, ← hl] at hz
  have ez : bin .sub .i64 (ofN n) (ofN n1) = (zs0 xs : Int) := by rw [o, ofN_ hA n1, sub_i64 hA (by omega)]; omega
  obtain ⟨zi, hzi⟩ : ∃ zi, zi = bin .sub .i64 (ofN n) (ofN n1) := ⟨_, rfl⟩
  rw [← hzi] at ez
  simp (maxSteps := 10000000) only [← hzi]
  refine (trimP hP R1 a n c xs (h.le hR1) hc (by omega)).callP rfl ?_
  rintro R2 _ hR2 ⟨a2, n2, c2, rfl, hr2, hc2⟩
  conv => cbv
  obtain ⟨T0, hT0⟩ : ∃ T0, T0 = ((dsL (be xs)).map ch).reverse := ⟨_, rfl⟩
  have hT0l : T0.length ≤ 2000 := by
    rw [hT0, List.length_reverse, List.length_map]
    have := dsL_256 hV
    omega
  refine ⟨Lb5, fun x => ⟨[(4, .v (.slice x.a x.n x.c)), (5, .v (.string x.s)), (3, .v (.int .i64 zi))], x.R, [], 0, []⟩,
    fun m x => ∃ (v : Nat) (ts : List Int), m = v ∧ RI x.R .u8 x.a x.n (dl v).reverse ∧ x.n ≤ x.c ∧ x.n ≤ n ∧ SB x.s ts ∧ ((dsL v).map ch).reverse ++ ts = T0,
    ⟨be xs, ⟨R2, a2, n2, c2, ⟨#[]⟩⟩, ⟨⟨rfl, rfl, rfl, trivial⟩, rfl, trivial, rfl, .refl _⟩, be xs, [], rfl, hr2, hc2, by show n2 ≤ n; have := hr1.len; have := hr2.len; omega, lit0, by rw [List.append_nil, hT0]⟩, ?_⟩
  rintro m ⟨R3, a3, n3, c3, s3⟩ ⟨v, ts, hm, hr3, hc3, hn3, hs3, hT3⟩
  simp only at hr3 hc3 hn3 hs3
  have hl3 := hr3.len
  rw [List.length_reverse] at hl3
  have o3 := ofN_ hA n3
  have hts : ts.length ≤ 2000 := by
    have := congrArg List.length hT3
    rw [List.length_append] at this
    omega
  conv => cbv
  by_cases hv : v = 0
  · rw [hv, dl0] at hl3
    rw [hv, dsL0] at hT3
    have hts0 : ts = T0 := by rw [← hT3]; rfl
    refine br_f (by rw [o3, cmp_gtr hA]; simp; exact hl3) ?_
    conv => cbv
    refine ⟨Lb6, fun x => ⟨[(32, .v (.int .i64 x.i)), (31, .v (.int .i64 zi)), (5, .v (.string x.s))], R3, [], 0, []⟩,
      fun m x => ∃ i : Nat, x.i = i ∧ i ≤ zs0 xs ∧ m = zs0 xs - i ∧ SB x.s (List.replicate i 49 ++ T0),
      ⟨zs0 xs, ⟨0, s3⟩, ⟨⟨rfl, rfl, rfl, trivial⟩, rfl, trivial, rfl, .refl _⟩, 0, rfl, Nat.zero_le _, rfl, by rw [← hts0]; exact hs3⟩, ?_⟩
    rintro m2 ⟨i2, s4⟩ ⟨i, hi, hiz, hm2, hs4⟩
    simp only at hi hs4
    conv => cbv
    by_cases hlt : i < zs0 xs
    · refine br_t (by rw [ez, cmp_lss hA]; simp; omega) ?_
      conv => cbv
      have hsz4 := hs4.size
      rw [List.length_append, List.length_replicate] at hsz4
      refine ⟨by show 1 + s4.size ≤ _; omega, ?_⟩
      have hs5 := sb_cat hA lit1 hs4
      conv => cbv
      exact ⟨zs0 xs - (i + 1), ⟨bin .add .i64 i2 1, cat ⟨#[49]⟩ s4⟩, by omega, ⟨⟨rfl, rfl, rfl, trivial⟩, rfl, trivial, rfl, .refl _⟩, i + 1, by show bin .add .i64 i2 1 = _; rw [hi, add_i64 hA (by omega)]; rfl, by omega, rfl, hs5⟩
    · refine br_f (by rw [ez, cmp_lss hA]; simp; omega) ?_
      conv => cbv
      intro ρ R'' _ _ _
      refine ⟨s4, rfl, ?_⟩
      rw [enc, ← hT0, show zs0 xs = i by omega]
      exact hs4
  have hn0 : n3 ≠ 0 := by
    rw [hl3]
    exact fun e => dl_ne hv (List.eq_nil_of_length_eq_zero e)
  refine br_t (by rw [o3, cmp_gtr hA]; simp; omega) ?_
  conv => cbv
  refine (overR hP R3 a3 n3 c3 _ hr3 hc3 (by omega) 58 58 rfl (by decide) (by decide)).callP rfl ?_
  rintro R4 _ hR4 ⟨a4, n4, c4, l, rfl, hr4, hc4, hlv⟩
  rw [be_rev] at hr4 hlv
  conv => cbv
  have hd58 : v % 58 < 58 := Nat.mod_lt _ (by decide)
  have el1 : bin .add .u64 l 1 = ((v % 58 + 1 : Nat) : Int) := by rw [hlv, add_u64 hA (by omega)]; rfl
  refine ⟨v % 58, v % 58 + 1, hlv.symm, el1.symm, by omega, by show v % 58 + 1 ≤ 58; omega, ?_⟩
  intro y hy
  have hys : SB y [ch (v % 58)] := by
    have := lit58.ext (v % 58) (v % 58 + 1)
    rw [alph_sub hd58] at this
    rw [hy]
    exact this
  conv => cbv
  have hz3 := hs3.size
  have hzy := hys.size
  refine ⟨by rw [hzy, hz3]; simp; omega, ?_⟩
  have hs5 := sb_cat hA hys hs3
  conv => cbv
  refine ⟨v / 58, ⟨R4, a4, n4, c4, cat y s3⟩, by omega, ⟨⟨rfl, rfl, rfl, trivial⟩, rfl, trivial, rfl, .refl _⟩, v / 58, _, rfl, hr4, hc4, ?_, hs5, ?_⟩
  · show n4 ≤ n
    have h4 := hr4.len
    rw [List.length_reverse] at h4
    have h5 : (dl v).length = (dl (v / 256)).length + 1 := by rw [dlS hv]; rfl
    have h6 : (dl (v / 58)).length ≤ (dl v).length := by
      by_cases h0 : v / 58 = 0
      · rw [h0, dl0]; exact Nat.zero_le _
      · obtain ⟨h7, h8⟩ := dl_len _ h0
        have h9 := dl_lt v
        have h10 : 256 ^ ((dl (v / 58)).length - 1) < 256 ^ (dl v).length := Nat.lt_of_le_of_lt h8 (Nat.lt_of_le_of_lt (Nat.div_le_self _ _) h9)
        have := (Nat.pow_lt_pow_iff_right (by decide : 1 < 256)).1 h10
        omega
    omega
  · rw [dsLS hv, List.map_cons, List.reverse_cons, List.append_assoc] at hT3
    exact hT3
end Go.Proofs.YtepfbdfbfimefaaDoor.Bf
end
section
namespace Go.Proofs.YtepfbdfbfimefaaDoor.Tyeg
open Go Go.Se Go.Proofs

/-- int -/
def y3 : Ty := ⟨.int .i64, 1, false, .int .i64 0, 8⟩
theorem ty3 : tyOf Tryd.prog 3 = some y3 := by kernel_rfl

/-- function 24: pub-mintmark/pub/btcdaddress/base58.bigRadix -/
def tys24 : Nat → Option Ty := fun t => find [(3, y3)] t
theorem ok24 : TysOk Tryd.prog tys24 := tysOk_of ⟨ty3, trivial⟩
end Go.Proofs.YtepfbdfbfimefaaDoor.Tyeg
end
section
set_option linter.unusedSimpArgs false
set_option linter.unusedVariables false
namespace Go.Proofs.YtepfbdfbfimefaaDoor.Bf
open Go Go.Se Go.Proofs Go.Proofs.YtepfbdfbfimefaaDoor.Co Go.Proofs.YtepfbdfbfimefaaDoor.Ht Go.Proofs.YtepfbdfbfimefaaDoor.Tyeg

/-- The room that is reckoned for a text. -/
def chkF (n : Nat) : Bool := match Ieee.double.mul (FloatKind.f64.nearest (n : Int)) 4608829197101310600 with
  | some r => (match (FloatKind.f64.decode r).toInt .zero with
    | some m => decide (0 ≤ m) && decide (m ≤ 1000)
    | none => false)
  | none => false
theorem chkF_all : (List.range 301).all chkF = true := by decide +kernel
theorem room {n : Nat} (h : n ≤ 300) : ∃ (r : Nat) (m : Int), Ieee.double.mul (FloatKind.f64.nearest (n : Int)) 4608829197101310600 = some r ∧ (FloatKind.f64.decode r).toInt .zero = some m ∧ 0 ≤ m ∧ m ≤ 1000 := by
  have h1 := List.all_eq_true.1 chkF_all n (List.mem_range.2 (by omega))
  unfold chkF at h1
  split at h1
  · rename_i r hr
    split at h1
    · rename_i m hm
      simp only [Bool.and_eq_true, decide_eq_true_eq] at h1
      exact ⟨r, m, hr, hm, h1.1, h1.2⟩
    · cases h1
  · cases h1

section
variable {C : Cx} {s : St} {o : Oper} {K : SV → Prop}
theorem raw_i2f {S D : Nat} {x : Operand} {n : Int} (ho : o.op = .convert S D x) (hx : s.ev x = some (.v (.int .i64 n))) (hS : C.P.underlying S = some (.int .i64)) (hD : C.P.underlying D = some (.float .f64))
    (hK : ∀ b, b = FloatKind.f64.nearest n → K (.v (.float .f64 b))) : RawH C s o K := by
  refine ⟨.v (.float .f64 (FloatKind.f64.nearest n)), trivial, hK _ rfl, fun ρ w hrel ev hev => ?_⟩
  unfold execOp
  rw [ho]
  simp only
  refine run_v ?_
  rw [hev x _ hx]
  simp only [convert, bind, val]
  rw [run_bind_pure (run_und hS), run_bind_pure (run_und hD)]
  rfl

theorem raw_fmul {P : Program} {ev : Operand → Value} {K : Value → Prop} {T T2 : Nat} {x y : Operand} {a b r : Nat} (ho : o.op = .binOp .mul T x y T2) (hx : ev x = .float .f64 a) (hy : ev y = .float .f64 b) (hr : Ieee.double.mul a b = some r)
    (hK : K (.float .f64 r)) : RawP P o ev K := by
  refine ⟨_, fun w => ?_, hK⟩
  unfold execOp
  rw [ho]
  simp only [hx, hy]
  have h1 : ∀ w, (binOp .mul T (.float .f64 a) (.float .f64 b)).run P w = .ok (.float .f64 r) w := fun w => by
    simp only [binOp, ne_eq, not_true_eq_false, if_false, Op.floatArith, bind, FloatKind.format]
    rw [hr]
    simp [pure, Sem.run, Sem.bind]
  have hg : ∀ w, (eqGuard .mul T x y (.float .f64 a) (.float .f64 b)).run P w = .ok () w := run_guard_other (by simp) (by simp)
  exact run_v (run_bin hg h1 w)

theorem raw_f2i {S D : Nat} {x : Operand} {b : Nat} {m : Int} (ho : o.op = .convert S D x) (hx : s.ev x = some (.v (.float .f64 b))) (hS : C.P.underlying S = some (.float .f64)) (hD : C.P.underlying D = some (.int .i64))
    (hm : (FloatKind.f64.decode b).toInt .zero = some m) (h0 : 0 ≤ m) (h1 : m ≤ 1000) (hK : K (.v (.int .i64 m))) : RawH C s o K := by
  refine ⟨.v (.int .i64 m), trivial, hK, fun ρ w hrel ev hev => ?_⟩
  unfold execOp
  rw [ho]
  simp only
  refine run_v ?_
  rw [hev x _ hx]
  simp only [convert, bind, val]
  rw [run_bind_pure (run_und hS), run_bind_pure (run_und hD)]
  simp only [Conv.floatToInt, hm]
  rw [if_pos ⟨by simp [IntKind.min, IntKind.signed, IntKind.bits]; omega, by simp [IntKind.max, IntKind.signed, IntKind.bits]; omega⟩]
  rfl
end

set_option maxRecDepth 100000 in
set_option maxHeartbeats 4000000 in
theorem bigRadixP {P : Program} (hP : P = Tryd.prog) (R : RO) (k : Nat) (ki : Int) (hki : ki = k) (hk1 : 1 ≤ k) (hk : k ≤ 10) (Y : Nat) (hY : Y = 58 ^ k) :
    RetP P 24 [.int .i64 ki] R fun R' r => IntAt R' r Y := by
  subst hP
  refine retP_vc (fz := []) Tryd.func24 rfl (by decide) rfl ok24 ?_
  intro P bin cmp cnv neg com bnot beq ofN toN at_ sub_ scmp cat sget ssz ssub elem fld_ hP hA
  conv => cbv
  have hcase : k = 1 ∨ k = 2 ∨ k = 3 ∨ k = 4 ∨ k = 5 ∨ k = 6 ∨ k = 7 ∨ k = 8 ∨ k = 9 ∨ k = 10 := by omega
  rcases hcase with rfl | rfl | rfl | rfl | rfl | rfl | rfl | rfl | rfl | rfl
  · obtain rfl : ki = 1 := hki
    obtain rfl : Y = 58 := hY
    refine br_t (by rw [cmp_eql hA]; decide) ?_
    conv => cbv
    refine (newIntP hP R 58 58 rfl (by decide)).callP rfl ?_
    rintro R1 r1 hR1 hr1
    conv => cbv
    intro ρ R'' hle _ _
    exact IntAt.le hr1 hle
  · obtain rfl : ki = 2 := hki
    obtain rfl : Y = 3364 := hY
    refine br_f (by rw [cmp_eql hA]; decide) ?_
    conv => cbv
    refine br_t (by rw [cmp_eql hA]; decide) ?_
    conv => cbv
    refine (newIntP hP R 3364 3364 rfl (by decide)).callP rfl ?_
    rintro R1 r1 hR1 hr1
    conv => cbv
    intro ρ R'' hle _ _
    exact IntAt.le hr1 hle
  · obtain rfl : ki = 3 := hki
    obtain rfl : Y = 195112 := hY
    refine br_f (by rw [cmp_eql hA]; decide) ?_
    conv => cbv
    refine br_f (by rw [cmp_eql hA]; decide) ?_
    conv => cbv
    refine br_t (by rw [cmp_eql hA]; decide) ?_
    conv => cbv
    refine (newIntP hP R 195112 195112 rfl (by decide)).callP rfl ?_
    rintro R1 r1 hR1 hr1
    conv => cbv
    intro ρ R'' hle _ _
    exact IntAt.le hr1 hle
  · obtain rfl : ki = 4 := hki
    obtain rfl : Y = 11316496 := hY
    refine br_f (by rw [cmp_eql hA]; decide) ?_
    conv => cbv
    refine br_f (by rw [cmp_eql hA]; decide) ?_
    conv => cbv
    refine br_f (by rw [cmp_eql hA]; decide) ?_
    conv => cbv
    refine br_t (by rw [cmp_eql hA]; decide) ?_
    conv => cbv
    refine (newIntP hP R 11316496 11316496 rfl (by decide)).callP rfl ?_
    rintro R1 r1 hR1 hr1
    conv => cbv
    intro ρ R'' hle _ _
    exact IntAt.le hr1 hle
  · obtain rfl : ki = 5 := hki
    obtain rfl : Y = 656356768 := hY
    refine br_f (by rw [cmp_eql hA]; decide) ?_
    conv => cbv
    refine br_f (by rw [cmp_eql hA]; decide) ?_
    conv => cbv
    refine br_f (by rw [cmp_eql hA]; decide) ?_
    conv => cbv
    refine br_f (by rw [cmp_eql hA]; decide) ?_
    conv => cbv
    refine br_t (by rw [cmp_eql hA]; decide) ?_
    conv => cbv
    refine (newIntP hP R 656356768 656356768 rfl (by decide)).callP rfl ?_
    rintro R1 r1 hR1 hr1
    conv => cbv
    intro ρ R'' hle _ _
    exact IntAt.le hr1 hle
  · obtain rfl : ki = 6 := hki
    obtain rfl : Y = 38068692544 := hY
    refine br_f (by rw [cmp_eql hA]; decide) ?_
    conv => cbv
    refine br_f (by rw [cmp_eql hA]; decide) ?_
    conv => cbv
    refine br_f (by rw [cmp_eql hA]; decide) ?_
    conv => cbv
    refine br_f (by rw [cmp_eql hA]; decide) ?_
    conv => cbv
    refine br_f (by rw [cmp_eql hA]; decide) ?_
    conv => cbv
    refine br_t (by rw [cmp_eql hA]; decide) ?_
    conv => cbv
    refine (newIntP hP R 38068692544 38068692544 rfl (by decide)).callP rfl ?_
    rintro R1 r1 hR1 hr1
    conv => cbv
    intro ρ R'' hle _ _
    exact IntAt.le hr1 hle
  · obtain rfl : ki = 7 := hki
    obtain rfl : Y = 2207984167552 := hY
    refine br_f (by rw [cmp_eql hA]; decide) ?_
    conv => cbv
    refine br_f (by rw [cmp_eql hA]; decide) ?_
    conv => cbv
    refine br_f (by rw [cmp_eql hA]; decide) ?_
    conv => cbv
    refine br_f (by rw [cmp_eql hA]; decide) ?_
    conv => cbv
    refine br_f (by rw [cmp_eql hA]; decide) ?_
    conv => cbv
    refine br_f (by rw [cmp_eql hA]; decide) ?_
    conv => cbv
    refine br_t (by rw [cmp_eql hA]; decide) ?_
    conv => cbv
    refine (newIntP hP R 2207984167552 2207984167552 rfl (by decide)).callP rfl ?_
    rintro R1 r1 hR1 hr1
    conv => cbv
    intro ρ R'' hle _ _
    exact IntAt.le hr1 hle
  · obtain rfl : ki = 8 := hki
    obtain rfl : Y = 128063081718016 := hY
    refine br_f (by rw [cmp_eql hA]; decide) ?_
    conv => cbv
    refine br_f (by rw [cmp_eql hA]; decide) ?_
    conv => cbv
    refine br_f (by rw [cmp_eql hA]; decide) ?_
    conv => cbv
    refine br_f (by rw [cmp_eql hA]; decide) ?_
    conv => cbv
    refine br_f (by rw [cmp_eql hA]; decide) ?_
    conv => cbv
    refine br_f (by rw [cmp_eql hA]; decide) ?_
    conv => cbv
    refine br_f (by rw [cmp_eql hA]; decide) ?_
    conv => cbv
    refine br_t (by rw [cmp_eql hA]; decide) ?_
    conv => cbv
    refine (newIntP hP R 128063081718016 128063081718016 rfl (by decide)).callP rfl ?_
    rintro R1 r1 hR1 hr1
    conv => cbv
    intro ρ R'' hle _ _
    exact IntAt.le hr1 hle
  · obtain rfl : ki = 9 := hki
    obtain rfl : Y = 7427658739644928 := hY
    refine br_f (by rw [cmp_eql hA]; decide) ?_
    conv => cbv
    refine br_f (by rw [cmp_eql hA]; decide) ?_
    conv => cbv
    refine br_f (by rw [cmp_eql hA]; decide) ?_
    conv => cbv
    refine br_f (by rw [cmp_eql hA]; decide) ?_
    conv => cbv
    refine br_f (by rw [cmp_eql hA]; decide) ?_
    conv => cbv
    refine br_f (by rw [cmp_eql hA]; decide) ?_
    conv => cbv
    refine br_f (by rw [cmp_eql hA]; decide) ?_
    conv => cbv
    refine br_f (by rw [cmp_eql hA]; decide) ?_
    conv => cbv
    refine br_t (by rw [cmp_eql hA]; decide) ?_
    conv => cbv
    refine (newIntP hP R 7427658739644928 7427658739644928 rfl (by decide)).callP rfl ?_
    rintro R1 r1 hR1 hr1
    conv => cbv
    intro ρ R'' hle _ _
    exact IntAt.le hr1 hle
  · obtain rfl : ki = 10 := hki
    obtain rfl : Y = 430804206899405824 := hY
    refine br_f (by rw [cmp_eql hA]; decide) ?_
    conv => cbv
    refine br_f (by rw [cmp_eql hA]; decide) ?_
    conv => cbv
    refine br_f (by rw [cmp_eql hA]; decide) ?_
    conv => cbv
    refine br_f (by rw [cmp_eql hA]; decide) ?_
    conv => cbv
    refine br_f (by rw [cmp_eql hA]; decide) ?_
    conv => cbv
    refine br_f (by rw [cmp_eql hA]; decide) ?_
    conv => cbv
    refine br_f (by rw [cmp_eql hA]; decide) ?_
    conv => cbv
    refine br_f (by rw [cmp_eql hA]; decide) ?_
    conv => cbv
    refine br_f (by rw [cmp_eql hA]; decide) ?_
    conv => cbv
    refine br_t (by rw [cmp_eql hA]; decide) ?_
    conv => cbv
    refine (newIntP hP R 430804206899405824 430804206899405824 rfl (by decide)).callP rfl ?_
    rintro R1 r1 hR1 hr1
    conv => cbv
    intro ρ R'' hle _ _
    exact IntAt.le hr1 hle

end Go.Proofs.YtepfbdfbfimefaaDoor.Bf
end
