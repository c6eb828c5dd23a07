/- Numbers of scripts: the plain arithmetic (no program here). -/
import Derived.Test.YtclkimgpdnldnaaSn
set_option linter.unusedSimpArgs false
set_option linter.unusedVariables false
namespace Go.Proofs.Ytclkimgpdnldnaa.Num
open Go Go.Se

/-- Least byte first. -/
def le : List Int → Int
  | [] => 0
  | x :: xs => x + 256 * le xs

def Bytes (xs : List Int) : Prop := ∀ x ∈ xs, 0 ≤ x ∧ x ≤ 255

theorem le_bd : ∀ xs, Bytes xs → 0 ≤ le xs ∧ le xs < 256 ^ xs.length
  | [], _ => by simp [le]
  | x :: xs, h => by
    obtain ⟨a, b⟩ := h x (by simp)
    obtain ⟨c, d⟩ := le_bd xs fun y hy => h y (by simp [hy])
    simp only [le, List.length_cons, Int.pow_succ]
    omega

theorem le_snoc : ∀ (xs : List Int) (x : Int), le (xs ++ [x]) = le xs + x * 256 ^ xs.length
  | [], x => by simp [le]
  | y :: xs, x => by
    simp only [List.cons_append, le, le_snoc xs x, List.length_cons, Int.pow_succ]
    rw [Int.mul_add, Int.add_assoc, Int.mul_comm 256 (x * 256 ^ xs.length), Int.mul_assoc x]

/-- The last byte of them. -/
def last (xs : List Int) : Int := xs.getD (xs.length - 1) 0

/-- Without the sign. -/
def low (xs : List Int) : List Int := xs.set (xs.length - 1) (last xs % 128)

def sval (xs : List Int) : Int := if 128 ≤ last xs then - le (low xs) else le (low xs)

def short (xs : List Int) : Prop := xs = [] ∨ last xs % 128 ≠ 0 ∨ (1 < xs.length ∧ 128 ≤ xs.getD (xs.length - 2) 0)

theorem and127 {x : Nat} : x &&& 127 = x % 128 := Nat.and_two_pow_sub_one_eq_mod x 7
set_option maxRecDepth 100000 in
theorem and128 {x : Nat} (h : x ≤ 255) : x &&& 128 = if 128 ≤ x then 128 else 0 := by
  have : ∀ y : Fin 256, (y.val &&& 128) = if 128 ≤ y.val then 128 else 0 := by decide
  exact this ⟨x, by omega⟩

section
variable {bin : BinOp → IntKind → Int → Int → Int} (hb : bin = Ar.real.bin)
include hb
theorem and_i (x y : Int) (h0 : 0 ≤ x) (h1 : x ≤ 255) (h2 : 0 ≤ y) (h3 : y ≤ 255) : bin .and .u8 x y = ((x.toNat &&& y.toNat : Nat) : Int) := by
  have := and_u8 (bin := Ar.real.bin) (cmp := Ar.real.cmp) (cnv := Ar.real.conv) (neg := Ar.real.neg) (com := Ar.real.com) (bnot := Ar.real.not) (beq := Ar.real.beq) (ofN := Ar.real.ofNat) (toN := Ar.real.toNat) (at_ := Ar.real.at_) (sub_ := Ar.real.sub)
    (scmp := Ar.real.scmp) (cat := Ar.real.cat) (sget := Ar.real.sget) (ssz := Ar.real.ssize) (ssub := Ar.real.ssub) (elem := Ar.real.elem) (fld_ := Ar.real.fld) rfl (x := x.toNat) (y := y.toNat) (by omega) (by omega)
  rw [Int.toNat_of_nonneg h0, Int.toNat_of_nonneg h2] at this
  rw [hb]; exact this
theorem and127_u8 (x : Int) (h0 : 0 ≤ x) (h1 : x ≤ 255) : bin .and .u8 x 127 = x % 128 := by
  rw [and_i hb x 127 h0 h1 (by decide) (by decide), show (127 : Int).toNat = 127 from rfl, and127]; omega
theorem and128_u8 (x : Int) (h0 : 0 ≤ x) (h1 : x ≤ 255) : bin .and .u8 x 128 = if 128 ≤ x then 128 else 0 := by
  rw [and_i hb x 128 h0 h1 (by decide) (by decide), show (128 : Int).toNat = 128 from rfl, and128 (by omega)]
  by_cases h : 128 ≤ x
  · rw [if_pos (by omega), if_pos h]; rfl
  · rw [if_neg (by omega), if_neg h]; rfl
end

theorem shl_or (a c s : Nat) (ha : a < 2 ^ s) : a ||| c * 2 ^ s = a + c * 2 ^ s := by
  rw [Nat.or_comm, ← Nat.shiftLeft_eq, ← Nat.shiftLeft_add_eq_or_of_lt ha, Nat.shiftLeft_eq, Nat.add_comm]

theorem ofInt_wrap (m : Int) : BitVec.ofInt 64 (IntKind.i64.wrap m) = BitVec.ofInt 64 m := by
  apply BitVec.eq_of_toInt_eq
  rw [BitVec.toInt_ofInt, BitVec.toInt_ofInt]
  simp only [IntKind.wrap, IntKind.bits, IntKind.signed, Int.bmod]
  simp
  omega

theorem real_or (x y : Int) : Ar.real.bin .or .i64 x y = IntKind.i64.wrap (BitVec.ofInt 64 x ||| BitVec.ofInt 64 y).toNat := rfl
theorem real_and (x y : Int) : Ar.real.bin .and .i64 x y = IntKind.i64.wrap (BitVec.ofInt 64 x &&& BitVec.ofInt 64 y).toNat := rfl

theorem nat_ofInt {n : Nat} (h : n < 2 ^ 64) : (BitVec.ofInt 64 (n : Int)).toNat = n := by
  rw [BitVec.ofInt_natCast, BitVec.toNat_ofNat, Nat.mod_eq_of_lt h]

/-- A byte more. -/
theorem or_step (a c s : Nat) (hs : s ≤ 64) (ha : a < 2 ^ s) (hc : c * 2 ^ s < 2 ^ 64) : Ar.real.bin .or .i64 (a : Int) (IntKind.i64.wrap ((c : Int) * 2 ^ s)) = IntKind.i64.wrap ((a : Int) + c * 2 ^ s) := by
  have e : ((c : Int) * 2 ^ s) = ((c * 2 ^ s : Nat) : Int) := by simp
  have ha2 : a < 2 ^ 64 := Nat.lt_of_lt_of_le ha (Nat.pow_le_pow_right (by decide) hs)
  rw [real_or, ofInt_wrap, e, BitVec.toNat_or, nat_ofInt ha2, nat_ofInt hc, shl_or a c s ha]
  simp

theorem ofInt_nat (n : Nat) : BitVec.ofInt 64 (n : Int) = BitVec.ofNat 64 n := BitVec.ofInt_natCast 64 n

/-- The sign is taken away. -/
theorem clear_step (t p : Nat) (ht : t < 2 ^ p) (hp : p < 64) :
    Ar.real.bin .and .i64 (IntKind.i64.wrap ((t : Int) + 2 ^ p)) (Ar.real.com .i64 (IntKind.i64.wrap (2 ^ p))) = t := by
  have e : ((t : Int) + 2 ^ p) = ((t + 2 ^ p : Nat) : Int) := by simp
  have e2 : ((2 : Int) ^ p) = ((2 ^ p : Nat) : Int) := by simp
  have hcom : Ar.real.com .i64 (IntKind.i64.wrap (2 ^ p)) = IntKind.i64.wrap (BitVec.ofInt 64 (-1) ^^^ BitVec.ofInt 64 (IntKind.i64.wrap (2 ^ p))).toNat := rfl
  rw [real_and, hcom, ofInt_wrap, ofInt_wrap, ofInt_wrap, e, e2, ofInt_nat, ofInt_nat, ofInt_nat, BitVec.ofNat_toNat, BitVec.setWidth_eq]
  have hor : t + 2 ^ p = t ||| 2 ^ p := by
    have := shl_or t 1 p ht
    simp at this
    exact this.symm
  have key : BitVec.ofNat 64 (t + 2 ^ p) &&& (BitVec.ofInt 64 (-1) ^^^ BitVec.ofNat 64 (2 ^ p)) = BitVec.ofNat 64 t := by
    apply BitVec.eq_of_getLsbD_eq
    intro i hi
    have h1 : BitVec.ofInt 64 (-1) = BitVec.allOnes 64 := by decide
    rw [BitVec.getLsbD_and, BitVec.getLsbD_xor, h1, BitVec.getLsbD_allOnes, BitVec.getLsbD_ofNat, BitVec.getLsbD_ofNat, BitVec.getLsbD_ofNat, hor, Nat.testBit_or, Nat.testBit_two_pow]
    simp only [hi, decide_true, Bool.true_and, Bool.true_xor]
    by_cases hpi : p = i
    · subst hpi
      simp [Nat.testBit_lt_two_pow ht]
    · simp [hpi]
  rw [key, BitVec.toNat_ofNat, Nat.mod_eq_of_lt (Nat.lt_trans ht (Nat.pow_lt_pow_right (by decide) hp))]
  have h63 : t < 2 ^ 63 := Nat.lt_of_lt_of_le ht (Nat.pow_le_pow_right (by decide) (by omega))
  exact w_i64 (by omega)

section
variable {bin : BinOp → IntKind → Int → Int → Int} (hb : bin = Ar.real.bin)
include hb
theorem shl8 {x : Int} (h0 : 0 ≤ x) (h : x * 256 < 2 ^ 64) : bin .shl .u64 x 8 = x * 256 := by
  rw [hb]
  show IntKind.u64.wrap (x * 2 ^ min (8 : Int).toNat 64) = _
  rw [show min (8 : Int).toNat 64 = 8 from rfl]
  exact w_u64 (by omega)
theorem or256 {x c : Int} (h0 : 0 ≤ x) (h : x * 256 + c < 2 ^ 64) (c0 : 0 ≤ c) (c1 : c ≤ 255) : bin .or .u64 (x * 256) c = x * 256 + c := by
  obtain ⟨m, rfl⟩ : ∃ m : Nat, x = m := ⟨x.toNat, by omega⟩
  obtain ⟨d, rfl⟩ : ∃ m : Nat, c = m := ⟨c.toNat, by omega⟩
  have e : ((m : Int) * 256) = ((m * 256 : Nat) : Int) := by simp
  have := or_u64 (bin := Ar.real.bin) (cmp := Ar.real.cmp) (cnv := Ar.real.conv) (neg := Ar.real.neg) (com := Ar.real.com) (bnot := Ar.real.not) (beq := Ar.real.beq) (ofN := Ar.real.ofNat) (toN := Ar.real.toNat) (at_ := Ar.real.at_) (sub_ := Ar.real.sub)
    (scmp := Ar.real.scmp) (cat := Ar.real.cat) (sget := Ar.real.sget) (ssz := Ar.real.ssize) (ssub := Ar.real.ssub) (elem := Ar.real.elem) (fld_ := Ar.real.fld) rfl (x := m * 256) (y := d) (by omega) (by omega)
  rw [hb, e, this, Nat.or_comm, shl_or d m 8 (by omega)]
  omega
end

theorem low_len (xs : List Int) : (low xs).length = xs.length := by simp [low]

theorem low_at {xs : List Int} {i : Nat} (h : i < xs.length) : (low xs)[i]? = some (if i = xs.length - 1 then last xs % 128 else xs.getD i 0) := by
  unfold low
  by_cases he : xs.length - 1 = i
  · subst he
    rw [List.getElem?_set_self h, if_pos rfl]
  · rw [List.getElem?_set_ne he, if_neg (fun x => he x.symm), List.getElem?_eq_getElem h, List.getD_eq_getElem?_getD, List.getElem?_eq_getElem h]
    rfl

theorem le_drop {ys : List Int} {i : Nat} {c : Int} (h : ys[i]? = some c) : le (ys.drop i) = c + 256 * le (ys.drop (i + 1)) := by
  have hi : i < ys.length := by
    rcases Nat.lt_or_ge i ys.length with h' | h'
    · exact h'
    · rw [List.getElem?_eq_none h'] at h; cases h
  rw [List.drop_eq_getElem_cons hi]
  rw [List.getElem?_eq_getElem hi] at h
  simp only [Option.some.injEq] at h
  simp [le, h]

theorem low_bytes {xs : List Int} (h : Bytes xs) : Bytes (low xs) := by
  intro x hx
  rcases List.mem_or_eq_of_mem_set hx with hx | rfl
  · exact h x hx
  · omega

theorem drop_bytes {xs : List Int} (h : Bytes xs) (k : Nat) : Bytes (xs.drop k) := fun x hx => h x (List.mem_of_mem_drop hx)

theorem bytes_of {R : RO} {a : Option Addr} {n : Nat} {xs : List Int} (h : RI R .u8 a n xs) : Bytes xs := fun x hx => wf_u8 (h.wf x hx)

theorem pow256 (k : Nat) (h : k ≤ 8) : (256 : Int) ^ k ≤ 18446744073709551616 := by
  have : ∀ j : Fin 9, (256 : Int) ^ j.val ≤ 18446744073709551616 := by decide
  exact this ⟨k, by omega⟩

theorem pow256' (k : Nat) (h : k ≤ 7) : (256 : Int) ^ k ≤ 72057594037927936 := by
  have : ∀ j : Fin 8, (256 : Int) ^ j.val ≤ 72057594037927936 := by decide
  exact this ⟨k, by omega⟩

theorem le_append : ∀ (xs ys : List Int), le (xs ++ ys) = le xs + 256 ^ xs.length * le ys
  | [], ys => by simp [le]
  | x :: xs, ys => by
    simp only [List.cons_append, le, le_append xs ys, List.length_cons, Int.pow_succ]
    rw [Int.mul_add, Int.add_assoc, ← Int.mul_assoc, Int.mul_comm 256 (256 ^ xs.length)]

/-- Without its sign a number is below half. -/
theorem low_half {xs : List Int} (h : Bytes xs) (h0 : 0 < xs.length) : le (low xs) < 128 * 256 ^ (xs.length - 1) ∧
    le xs = le (low xs) + (last xs - last xs % 128) * 256 ^ (xs.length - 1) := by
  have hl : low xs = xs.take (xs.length - 1) ++ [last xs % 128] := by
    unfold low
    rw [List.set_eq_take_append_cons_drop, if_pos (by omega), List.drop_of_length_le (by omega)]
  have hx : xs = xs.take (xs.length - 1) ++ [last xs] := by
    conv => lhs; rw [← List.take_append_drop (xs.length - 1) xs]
    congr 1
    rw [List.drop_eq_getElem_cons (by omega), List.drop_of_length_le (by omega)]
    simp only [List.cons.injEq, and_true, last]
    rw [List.getD_eq_getElem?_getD, List.getElem?_eq_getElem (by omega)]
    rfl
  have hb : Bytes (xs.take (xs.length - 1)) := fun y hy => h y (List.mem_of_mem_take hy)
  obtain ⟨b0, b1⟩ := le_bd _ hb
  have hlen : (xs.take (xs.length - 1)).length = xs.length - 1 := by simp
  have e1 := le_snoc (xs.take (xs.length - 1)) (last xs % 128)
  have e2 := le_snoc (xs.take (xs.length - 1)) (last xs)
  rw [← hl, hlen] at e1
  rw [← hx, hlen] at e2
  rw [hlen] at b1
  have hp : (0 : Int) < 256 ^ (xs.length - 1) := Int.pow_pos (by decide)
  have hm : last xs % 128 * 256 ^ (xs.length - 1) ≤ 127 * 256 ^ (xs.length - 1) := Int.mul_le_mul_of_nonneg_right (by omega) (by omega)
  refine ⟨by rw [e1]; omega, ?_⟩
  rw [e2, e1, Int.sub_mul]
  omega

theorem low_top {xs : List Int} (h : Bytes xs) (h0 : 0 < xs.length) (h8 : xs.length ≤ 8) : le (low xs) < 9223372036854775808 := by
  have := (low_half h h0).1
  have hp := pow256' (xs.length - 1) (by omega)
  omega

theorem pow_256 (k : Nat) : (256 : Int) ^ k = 2 ^ (8 * k) := by rw [Int.pow_mul]; rfl

theorem take_le {xs : List Int} {i : Nat} (h : i < xs.length) : le (xs.take (i + 1)) = le (xs.take i) + xs.getD i 0 * 256 ^ i := by
  have h1 : xs.take (i + 1) = xs.take i ++ [xs.getD i 0] := by
    rw [List.take_succ_eq_append_getElem h, List.getD_eq_getElem?_getD, List.getElem?_eq_getElem h]
    rfl
  rw [h1, le_snoc, List.length_take, Nat.min_eq_left (by omega)]

/-- A byte more, as the program has it. -/
theorem step64 {bin : BinOp → IntKind → Int → Int → Int} (hb : bin = Ar.real.bin) {xs : List Int} (h : Bytes xs) {i : Nat} (hi : i < xs.length) (h8 : i < 8) {c : Int} (hc : c = xs.getD i 0) (c0 : 0 ≤ c) (c1 : c ≤ 255) :
    bin .or .i64 (IntKind.i64.wrap (le (xs.take i))) (bin .shl .i64 c (8 * (i : Int))) = IntKind.i64.wrap (le (xs.take (i + 1))) := by
  have hbt : Bytes (xs.take i) := fun y hy => h y (List.mem_of_mem_take hy)
  obtain ⟨b0, b1⟩ := le_bd _ hbt
  rw [List.length_take, Nat.min_eq_left (by omega), pow_256] at b1
  have hp : (2 : Int) ^ (8 * i) ≤ 72057594037927936 := by rw [← pow_256]; exact pow256' i (by omega)
  obtain ⟨t, ht⟩ : ∃ t : Nat, le (xs.take i) = t := ⟨(le (xs.take i)).toNat, by omega⟩
  obtain ⟨d, hd⟩ : ∃ t : Nat, c = t := ⟨c.toNat, by omega⟩
  have hsh : Ar.real.bin .shl .i64 c (8 * (i : Int)) = IntKind.i64.wrap ((d : Int) * 2 ^ (8 * i)) := by
    show IntKind.i64.wrap (c * 2 ^ min (8 * (i : Int)).toNat 64) = _
    rw [show min (8 * (i : Int)).toNat 64 = 8 * i by omega, hd]
  have htl : t < 2 ^ (8 * i) := by
    rw [ht] at b1
    exact_mod_cast b1
  have hds : d * 2 ^ (8 * i) < 2 ^ 64 := by
    have h2 : (2 : Nat) ^ (8 * i) ≤ 2 ^ 56 := Nat.pow_le_pow_right (by decide) (by omega)
    have h3 : d * 2 ^ (8 * i) ≤ 255 * 2 ^ 56 := Nat.mul_le_mul (by omega) h2
    omega
  rw [hb, hsh, ht, w_i64 (by omega), or_step t d (8 * i) (by omega) htl hds, take_le hi, ht, ← hc, hd, pow_256]

/-- The sign is taken away, as the program has it. -/
theorem sign64 {bin : BinOp → IntKind → Int → Int → Int} (hb : bin = Ar.real.bin) {com : IntKind → Int → Int} (hcm : com = Ar.real.com) {xs : List Int} (h : Bytes xs) (h0 : 0 < xs.length) (h8 : xs.length ≤ 8)
    (hlast : 128 ≤ last xs) (hl2 : last xs ≤ 255) :
    bin .and .i64 (IntKind.i64.wrap (le xs)) (com .i64 (bin .shl .i64 128 (8 * ((xs.length - 1 : Nat) : Int)))) = le (low xs) := by
  obtain ⟨e1, e2⟩ := low_half h h0
  obtain ⟨b0, _⟩ := le_bd _ (low_bytes h)
  have hd : last xs - last xs % 128 = 128 := by omega
  rw [hd] at e2
  obtain ⟨t, ht⟩ : ∃ t : Nat, le (low xs) = t := ⟨(le (low xs)).toNat, by omega⟩
  have hp : (128 : Int) * 256 ^ (xs.length - 1) = 2 ^ (8 * (xs.length - 1) + 7) := by
    rw [pow_256, Int.pow_add, Int.mul_comm]; rfl
  have hsh : Ar.real.bin .shl .i64 128 (8 * ((xs.length - 1 : Nat) : Int)) = IntKind.i64.wrap (2 ^ (8 * (xs.length - 1) + 7)) := by
    show IntKind.i64.wrap (128 * 2 ^ min (8 * ((xs.length - 1 : Nat) : Int)).toNat 64) = _
    rw [show min (8 * ((xs.length - 1 : Nat) : Int)).toNat 64 = 8 * (xs.length - 1) by omega, ← hp, pow_256]
  rw [hb, hcm, hsh, e2, hp, ht]
  refine clear_step t _ ?_ (by omega)
  rw [ht, hp] at e1
  exact_mod_cast e1
end Go.Proofs.Ytclkimgpdnldnaa.Num
