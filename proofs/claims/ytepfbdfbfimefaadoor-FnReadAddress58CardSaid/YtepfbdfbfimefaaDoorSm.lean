/- The evaluator: arithmetic, unfolded. Printed by a program of my own (smgen.py). -/
import Derived.Test.YtepfbdfbfimefaaDoorSl
set_option linter.unusedSimpArgs false
set_option linter.unusedVariables false
set_option linter.unusedSectionVars false
namespace Go.Se
open Go

theorem w_i64 {n : Int} (h : -9223372036854775808 ≤ n ∧ n ≤ 9223372036854775807) : IntKind.i64.wrap n = n := by
  simp only [IntKind.wrap, IntKind.bits, IntKind.signed]; simp; omega
theorem w_i32 {n : Int} (h : -2147483648 ≤ n ∧ n ≤ 2147483647) : IntKind.i32.wrap n = n := by
  simp only [IntKind.wrap, IntKind.bits, IntKind.signed]; simp; omega
theorem w_u8 {n : Int} (h : 0 ≤ n ∧ n ≤ 255) : IntKind.u8.wrap n = n := by
  simp only [IntKind.wrap, IntKind.bits, IntKind.signed]; simp; omega
theorem w_u16 {n : Int} (h : 0 ≤ n ∧ n ≤ 65535) : IntKind.u16.wrap n = n := by
  simp only [IntKind.wrap, IntKind.bits, IntKind.signed]; simp; omega
theorem w_u32 {n : Int} (h : 0 ≤ n ∧ n ≤ 4294967295) : IntKind.u32.wrap n = n := by
  simp only [IntKind.wrap, IntKind.bits, IntKind.signed]; simp; omega
theorem w_u64 {n : Int} (h : 0 ≤ n ∧ n ≤ 18446744073709551615) : IntKind.u64.wrap n = n := by
  simp only [IntKind.wrap, IntKind.bits, IntKind.signed]; simp; omega
theorem w_i16 {n : Int} (h : -32768 ≤ n ∧ n ≤ 32767) : IntKind.i16.wrap n = n := by
  simp only [IntKind.wrap, IntKind.bits, IntKind.signed]; simp; omega
theorem w_i8 {n : Int} (h : -128 ≤ n ∧ n ≤ 127) : IntKind.i8.wrap n = n := by
  simp only [IntKind.wrap, IntKind.bits, IntKind.signed]; simp; omega
section
variable {bin : BinOp → IntKind → Int → Int → Int} {cmp : BinOp → Int → Int → Bool} {cnv : IntKind → Int → Int} {neg : IntKind → Int → Int} {com : IntKind → Int → Int} {bnot : Bool → Bool} {beq : Bool → Bool → Bool} {ofN : Nat → Int} {toN : Int → Nat} {at_ : Nat → Nat → Nat → Nat} {sub_ : Nat → Nat → Nat} {scmp : BinOp → ByteArray → ByteArray → Bool} {cat : ByteArray → ByteArray → ByteArray} {sget : ByteArray → Int → Int} {ssz : ByteArray → Nat} {ssub : ByteArray → Nat → Nat → ByteArray} {elem : Option Addr → Int → Nat → Addr} {fld_ : Addr → Nat → Addr}
  (hA : (⟨bin, cmp, cnv, neg, com, bnot, beq, ofN, toN, at_, sub_, scmp, cat, sget, ssz, ssub, elem, fld_⟩ : Ar) = Ar.real)
include hA

theorem bin_is : bin = Ar.real.bin := congrArg Ar.bin hA
theorem cmp_is : cmp = Ar.real.cmp := congrArg Ar.cmp hA
theorem cnv_is : cnv = Ar.real.conv := congrArg Ar.conv hA
theorem neg_is : neg = Ar.real.neg := congrArg Ar.neg hA
theorem com_is : com = Ar.real.com := congrArg Ar.com hA
theorem bnot_is : bnot = Ar.real.not := congrArg Ar.not hA
theorem beq_is : beq = Ar.real.beq := congrArg Ar.beq hA
theorem ofN_is : ofN = Ar.real.ofNat := congrArg Ar.ofNat hA
theorem toN_is : toN = Ar.real.toNat := congrArg Ar.toNat hA
theorem at__is : at_ = Ar.real.at_ := congrArg Ar.at_ hA
theorem sub__is : sub_ = Ar.real.sub := congrArg Ar.sub hA
theorem scmp_is : scmp = Ar.real.scmp := congrArg Ar.scmp hA
theorem cat_is : cat = Ar.real.cat := congrArg Ar.cat hA
theorem sget_is : sget = Ar.real.sget := congrArg Ar.sget hA
theorem ssz_is : ssz = Ar.real.ssize := congrArg Ar.ssize hA
theorem ssub_is : ssub = Ar.real.ssub := congrArg Ar.ssub hA
theorem elem_is : elem = Ar.real.elem := congrArg Ar.elem hA
theorem fld__is : fld_ = Ar.real.fld := congrArg Ar.fld hA
theorem cmp_eql (x y : Int) : cmp .eql x y = (x == y) := by rw [cmp_is hA]; rfl
theorem cmp_neq (x y : Int) : cmp .neq x y = (x != y) := by rw [cmp_is hA]; rfl
theorem cmp_lss (x y : Int) : cmp .lss x y = (decide (x < y)) := by rw [cmp_is hA]; rfl
theorem cmp_leq (x y : Int) : cmp .leq x y = (decide (x ≤ y)) := by rw [cmp_is hA]; rfl
theorem cmp_gtr (x y : Int) : cmp .gtr x y = (decide (x > y)) := by rw [cmp_is hA]; rfl
theorem cmp_geq (x y : Int) : cmp .geq x y = (decide (x ≥ y)) := by rw [cmp_is hA]; rfl
theorem bnot_ (b : Bool) : bnot b = !b := by rw [bnot_is hA]; rfl
theorem beq_ (a b : Bool) : beq a b = (a == b) := by rw [beq_is hA]; rfl
theorem ofN_ (n : Nat) : ofN n = (n : Int) := by rw [ofN_is hA]; rfl
theorem toN_ (n : Int) : toN n = n.toNat := by rw [toN_is hA]; rfl
theorem at__ (o i z : Nat) : at_ o i z = o + i * z := by rw [at__is hA]; rfl
theorem ssz_ (s : ByteArray) : ssz s = s.size := by rw [ssz_is hA]; rfl
theorem bin_ (op : BinOp) (k : IntKind) (x y : Int) : bin op k x y = Ar.real.bin op k x y := by rw [bin_is hA]
theorem cnv_ (k : IntKind) (x : Int) : cnv k x = k.wrap x := by rw [cnv_is hA]; rfl
theorem neg_ (k : IntKind) (x : Int) : neg k x = k.wrap (0 - x) := by rw [neg_is hA]; rfl
theorem add_i64 {x y : Int} (h : -9223372036854775808 ≤ x + y ∧ x + y ≤ 9223372036854775807) : bin .add .i64 x y = x + y := by
  rw [bin_is hA]; exact w_i64 h
theorem sub_i64 {x y : Int} (h : -9223372036854775808 ≤ x - y ∧ x - y ≤ 9223372036854775807) : bin .sub .i64 x y = x - y := by
  rw [bin_is hA]; exact w_i64 h
theorem mul_i64 {x y : Int} (h : -9223372036854775808 ≤ x * y ∧ x * y ≤ 9223372036854775807) : bin .mul .i64 x y = x * y := by
  rw [bin_is hA]; exact w_i64 h
theorem quo_i64 {x y : Int} (h0 : 0 ≤ x) (h1 : x ≤ 9223372036854775807) (h2 : 0 ≤ y) : bin .quo .i64 x y = x / y := by
  rw [bin_is hA]
  show IntKind.i64.wrap (x.tdiv y) = _
  rw [Int.tdiv_eq_ediv_of_nonneg h0]
  refine w_i64 ?_
  have a := Int.ediv_nonneg h0 h2
  have b := Int.ediv_le_self y h0
  omega
theorem rem_i64 {x y : Int} (h0 : 0 ≤ x) : bin .rem .i64 x y = x % y := by
  rw [bin_is hA]
  exact Int.tmod_eq_emod_of_nonneg h0
theorem cnv_i64 {x : Int} (h : -9223372036854775808 ≤ x ∧ x ≤ 9223372036854775807) : cnv .i64 x = x := by
  rw [cnv_is hA]; exact w_i64 h
theorem shr_i64 {x y : Int} (h1 : y < 64) : bin .shr .i64 x y = x / 2 ^ y.toNat := by
  rw [bin_is hA]
  show x.fdiv (2 ^ min y.toNat 64) = _
  rw [Nat.min_eq_left (by omega), Int.fdiv_eq_ediv_of_nonneg _ (Int.pow_nonneg (by decide))]
theorem shl_i64 {x y : Int} (h1 : y < 64) (h : -9223372036854775808 ≤ x * 2 ^ y.toNat ∧ x * 2 ^ y.toNat ≤ 9223372036854775807) : bin .shl .i64 x y = x * 2 ^ y.toNat := by
  rw [bin_is hA]
  show IntKind.i64.wrap (x * 2 ^ min y.toNat 64) = _
  rw [Nat.min_eq_left (by omega)]
  exact w_i64 h
theorem add_i32 {x y : Int} (h : -2147483648 ≤ x + y ∧ x + y ≤ 2147483647) : bin .add .i32 x y = x + y := by
  rw [bin_is hA]; exact w_i32 h
theorem sub_i32 {x y : Int} (h : -2147483648 ≤ x - y ∧ x - y ≤ 2147483647) : bin .sub .i32 x y = x - y := by
  rw [bin_is hA]; exact w_i32 h
theorem mul_i32 {x y : Int} (h : -2147483648 ≤ x * y ∧ x * y ≤ 2147483647) : bin .mul .i32 x y = x * y := by
  rw [bin_is hA]; exact w_i32 h
theorem quo_i32 {x y : Int} (h0 : 0 ≤ x) (h1 : x ≤ 2147483647) (h2 : 0 ≤ y) : bin .quo .i32 x y = x / y := by
  rw [bin_is hA]
  show IntKind.i32.wrap (x.tdiv y) = _
  rw [Int.tdiv_eq_ediv_of_nonneg h0]
  refine w_i32 ?_
  have a := Int.ediv_nonneg h0 h2
  have b := Int.ediv_le_self y h0
  omega
theorem rem_i32 {x y : Int} (h0 : 0 ≤ x) : bin .rem .i32 x y = x % y := by
  rw [bin_is hA]
  exact Int.tmod_eq_emod_of_nonneg h0
theorem cnv_i32 {x : Int} (h : -2147483648 ≤ x ∧ x ≤ 2147483647) : cnv .i32 x = x := by
  rw [cnv_is hA]; exact w_i32 h
theorem shr_i32 {x y : Int} (h1 : y < 32) : bin .shr .i32 x y = x / 2 ^ y.toNat := by
  rw [bin_is hA]
  show x.fdiv (2 ^ min y.toNat 32) = _
  rw [Nat.min_eq_left (by omega), Int.fdiv_eq_ediv_of_nonneg _ (Int.pow_nonneg (by decide))]
theorem shl_i32 {x y : Int} (h1 : y < 32) (h : -2147483648 ≤ x * 2 ^ y.toNat ∧ x * 2 ^ y.toNat ≤ 2147483647) : bin .shl .i32 x y = x * 2 ^ y.toNat := by
  rw [bin_is hA]
  show IntKind.i32.wrap (x * 2 ^ min y.toNat 32) = _
  rw [Nat.min_eq_left (by omega)]
  exact w_i32 h
theorem add_u8 {x y : Int} (h : 0 ≤ x + y ∧ x + y ≤ 255) : bin .add .u8 x y = x + y := by
  rw [bin_is hA]; exact w_u8 h
theorem sub_u8 {x y : Int} (h : 0 ≤ x - y ∧ x - y ≤ 255) : bin .sub .u8 x y = x - y := by
  rw [bin_is hA]; exact w_u8 h
theorem mul_u8 {x y : Int} (h : 0 ≤ x * y ∧ x * y ≤ 255) : bin .mul .u8 x y = x * y := by
  rw [bin_is hA]; exact w_u8 h
theorem quo_u8 {x y : Int} (h0 : 0 ≤ x) (h1 : x ≤ 255) (h2 : 0 ≤ y) : bin .quo .u8 x y = x / y := by
  rw [bin_is hA]
  show IntKind.u8.wrap (x.tdiv y) = _
  rw [Int.tdiv_eq_ediv_of_nonneg h0]
  refine w_u8 ?_
  have a := Int.ediv_nonneg h0 h2
  have b := Int.ediv_le_self y h0
  omega
theorem rem_u8 {x y : Int} (h0 : 0 ≤ x) : bin .rem .u8 x y = x % y := by
  rw [bin_is hA]
  exact Int.tmod_eq_emod_of_nonneg h0
theorem cnv_u8 {x : Int} (h : 0 ≤ x ∧ x ≤ 255) : cnv .u8 x = x := by
  rw [cnv_is hA]; exact w_u8 h
theorem shr_u8 {x y : Int} (h1 : y < 8) : bin .shr .u8 x y = x / 2 ^ y.toNat := by
  rw [bin_is hA]
  show x.fdiv (2 ^ min y.toNat 8) = _
  rw [Nat.min_eq_left (by omega), Int.fdiv_eq_ediv_of_nonneg _ (Int.pow_nonneg (by decide))]
theorem shl_u8 {x y : Int} (h1 : y < 8) (h : 0 ≤ x * 2 ^ y.toNat ∧ x * 2 ^ y.toNat ≤ 255) : bin .shl .u8 x y = x * 2 ^ y.toNat := by
  rw [bin_is hA]
  show IntKind.u8.wrap (x * 2 ^ min y.toNat 8) = _
  rw [Nat.min_eq_left (by omega)]
  exact w_u8 h
theorem shw_u8 {x y : Nat} (h1 : y < 8) : bin .shl .u8 x y = ((x * 2 ^ y % 256 : Nat) : Int) := by
  rw [bin_is hA]
  show IntKind.u8.wrap ((x : Int) * 2 ^ min (y : Int).toNat 8) = _
  rw [Nat.min_eq_left (by omega)]
  have e : (x : Int) * 2 ^ (y : Int).toNat = ((x * 2 ^ y : Nat) : Int) := by push_cast; simp
  rw [e]
  generalize x * 2 ^ y = n
  have e2 : IntKind.u8.wrap (n : Int) = (n : Int) % 2 ^ 8 := by
    unfold IntKind.wrap
    exact if_neg (by simp [IntKind.signed])
  have e3 : ((2 : Int) ^ 8) = 256 := rfl
  rw [e2, e3]
  omega
theorem shn_u8 {x y : Nat} (h1 : y < 8) : bin .shr .u8 x y = ((x / 2 ^ y : Nat) : Int) := by
  rw [bin_is hA]
  show (x : Int).fdiv (2 ^ min (y : Int).toNat 8) = _
  rw [Nat.min_eq_left (by omega), Int.fdiv_eq_ediv_of_nonneg _ (Int.pow_nonneg (by decide))]
  push_cast
  simp
theorem and_u8 {x y : Nat} (h1 : x ≤ 255) (h2 : y ≤ 255) : bin .and .u8 x y = ((x &&& y : Nat) : Int) := by
  rw [bin_is hA]
  have e1 : (BitVec.ofInt 8 (x : Int)).toNat = x := by rw [BitVec.ofInt_natCast, BitVec.toNat_ofNat, Nat.mod_eq_of_lt (by omega)]
  have e2 : (BitVec.ofInt 8 (y : Int)).toNat = y := by rw [BitVec.ofInt_natCast, BitVec.toNat_ofNat, Nat.mod_eq_of_lt (by omega)]
  show IntKind.u8.wrap ((BitVec.ofInt 8 (x : Int) &&& BitVec.ofInt 8 (y : Int)).toNat : Int) = _
  rw [BitVec.toNat_and, e1, e2]
  have := Nat.and_le_left (n := x) (m := y)
  exact w_u8 (by omega)
theorem or_u8 {x y : Nat} (h1 : x ≤ 255) (h2 : y ≤ 255) : bin .or .u8 x y = ((x ||| y : Nat) : Int) := by
  rw [bin_is hA]
  have e1 : (BitVec.ofInt 8 (x : Int)).toNat = x := by rw [BitVec.ofInt_natCast, BitVec.toNat_ofNat, Nat.mod_eq_of_lt (by omega)]
  have e2 : (BitVec.ofInt 8 (y : Int)).toNat = y := by rw [BitVec.ofInt_natCast, BitVec.toNat_ofNat, Nat.mod_eq_of_lt (by omega)]
  show IntKind.u8.wrap ((BitVec.ofInt 8 (x : Int) ||| BitVec.ofInt 8 (y : Int)).toNat : Int) = _
  rw [BitVec.toNat_or, e1, e2]
  have := Nat.or_lt_two_pow (n := 8) (x := x) (y := y) (by omega) (by omega)
  exact w_u8 (by omega)
theorem xor_u8 {x y : Nat} (h1 : x ≤ 255) (h2 : y ≤ 255) : bin .xor .u8 x y = ((x ^^^ y : Nat) : Int) := by
  rw [bin_is hA]
  have e1 : (BitVec.ofInt 8 (x : Int)).toNat = x := by rw [BitVec.ofInt_natCast, BitVec.toNat_ofNat, Nat.mod_eq_of_lt (by omega)]
  have e2 : (BitVec.ofInt 8 (y : Int)).toNat = y := by rw [BitVec.ofInt_natCast, BitVec.toNat_ofNat, Nat.mod_eq_of_lt (by omega)]
  show IntKind.u8.wrap ((BitVec.ofInt 8 (x : Int) ^^^ BitVec.ofInt 8 (y : Int)).toNat : Int) = _
  rw [BitVec.toNat_xor, e1, e2]
  have := Nat.xor_lt_two_pow (n := 8) (x := x) (y := y) (by omega) (by omega)
  exact w_u8 (by omega)
theorem add_u16 {x y : Int} (h : 0 ≤ x + y ∧ x + y ≤ 65535) : bin .add .u16 x y = x + y := by
  rw [bin_is hA]; exact w_u16 h
theorem sub_u16 {x y : Int} (h : 0 ≤ x - y ∧ x - y ≤ 65535) : bin .sub .u16 x y = x - y := by
  rw [bin_is hA]; exact w_u16 h
theorem mul_u16 {x y : Int} (h : 0 ≤ x * y ∧ x * y ≤ 65535) : bin .mul .u16 x y = x * y := by
  rw [bin_is hA]; exact w_u16 h
theorem quo_u16 {x y : Int} (h0 : 0 ≤ x) (h1 : x ≤ 65535) (h2 : 0 ≤ y) : bin .quo .u16 x y = x / y := by
  rw [bin_is hA]
  show IntKind.u16.wrap (x.tdiv y) = _
  rw [Int.tdiv_eq_ediv_of_nonneg h0]
  refine w_u16 ?_
  have a := Int.ediv_nonneg h0 h2
  have b := Int.ediv_le_self y h0
  omega
theorem rem_u16 {x y : Int} (h0 : 0 ≤ x) : bin .rem .u16 x y = x % y := by
  rw [bin_is hA]
  exact Int.tmod_eq_emod_of_nonneg h0
theorem cnv_u16 {x : Int} (h : 0 ≤ x ∧ x ≤ 65535) : cnv .u16 x = x := by
  rw [cnv_is hA]; exact w_u16 h
theorem shr_u16 {x y : Int} (h1 : y < 16) : bin .shr .u16 x y = x / 2 ^ y.toNat := by
  rw [bin_is hA]
  show x.fdiv (2 ^ min y.toNat 16) = _
  rw [Nat.min_eq_left (by omega), Int.fdiv_eq_ediv_of_nonneg _ (Int.pow_nonneg (by decide))]
theorem shl_u16 {x y : Int} (h1 : y < 16) (h : 0 ≤ x * 2 ^ y.toNat ∧ x * 2 ^ y.toNat ≤ 65535) : bin .shl .u16 x y = x * 2 ^ y.toNat := by
  rw [bin_is hA]
  show IntKind.u16.wrap (x * 2 ^ min y.toNat 16) = _
  rw [Nat.min_eq_left (by omega)]
  exact w_u16 h
theorem shw_u16 {x y : Nat} (h1 : y < 16) : bin .shl .u16 x y = ((x * 2 ^ y % 65536 : Nat) : Int) := by
  rw [bin_is hA]
  show IntKind.u16.wrap ((x : Int) * 2 ^ min (y : Int).toNat 16) = _
  rw [Nat.min_eq_left (by omega)]
  have e : (x : Int) * 2 ^ (y : Int).toNat = ((x * 2 ^ y : Nat) : Int) := by push_cast; simp
  rw [e]
  generalize x * 2 ^ y = n
  have e2 : IntKind.u16.wrap (n : Int) = (n : Int) % 2 ^ 16 := by
    unfold IntKind.wrap
    exact if_neg (by simp [IntKind.signed])
  have e3 : ((2 : Int) ^ 16) = 65536 := rfl
  rw [e2, e3]
  omega
theorem shn_u16 {x y : Nat} (h1 : y < 16) : bin .shr .u16 x y = ((x / 2 ^ y : Nat) : Int) := by
  rw [bin_is hA]
  show (x : Int).fdiv (2 ^ min (y : Int).toNat 16) = _
  rw [Nat.min_eq_left (by omega), Int.fdiv_eq_ediv_of_nonneg _ (Int.pow_nonneg (by decide))]
  push_cast
  simp
theorem and_u16 {x y : Nat} (h1 : x ≤ 65535) (h2 : y ≤ 65535) : bin .and .u16 x y = ((x &&& y : Nat) : Int) := by
  rw [bin_is hA]
  have e1 : (BitVec.ofInt 16 (x : Int)).toNat = x := by rw [BitVec.ofInt_natCast, BitVec.toNat_ofNat, Nat.mod_eq_of_lt (by omega)]
  have e2 : (BitVec.ofInt 16 (y : Int)).toNat = y := by rw [BitVec.ofInt_natCast, BitVec.toNat_ofNat, Nat.mod_eq_of_lt (by omega)]
  show IntKind.u16.wrap ((BitVec.ofInt 16 (x : Int) &&& BitVec.ofInt 16 (y : Int)).toNat : Int) = _
  rw [BitVec.toNat_and, e1, e2]
  have := Nat.and_le_left (n := x) (m := y)
  exact w_u16 (by omega)
theorem or_u16 {x y : Nat} (h1 : x ≤ 65535) (h2 : y ≤ 65535) : bin .or .u16 x y = ((x ||| y : Nat) : Int) := by
  rw [bin_is hA]
  have e1 : (BitVec.ofInt 16 (x : Int)).toNat = x := by rw [BitVec.ofInt_natCast, BitVec.toNat_ofNat, Nat.mod_eq_of_lt (by omega)]
  have e2 : (BitVec.ofInt 16 (y : Int)).toNat = y := by rw [BitVec.ofInt_natCast, BitVec.toNat_ofNat, Nat.mod_eq_of_lt (by omega)]
  show IntKind.u16.wrap ((BitVec.ofInt 16 (x : Int) ||| BitVec.ofInt 16 (y : Int)).toNat : Int) = _
  rw [BitVec.toNat_or, e1, e2]
  have := Nat.or_lt_two_pow (n := 16) (x := x) (y := y) (by omega) (by omega)
  exact w_u16 (by omega)
theorem xor_u16 {x y : Nat} (h1 : x ≤ 65535) (h2 : y ≤ 65535) : bin .xor .u16 x y = ((x ^^^ y : Nat) : Int) := by
  rw [bin_is hA]
  have e1 : (BitVec.ofInt 16 (x : Int)).toNat = x := by rw [BitVec.ofInt_natCast, BitVec.toNat_ofNat, Nat.mod_eq_of_lt (by omega)]
  have e2 : (BitVec.ofInt 16 (y : Int)).toNat = y := by rw [BitVec.ofInt_natCast, BitVec.toNat_ofNat, Nat.mod_eq_of_lt (by omega)]
  show IntKind.u16.wrap ((BitVec.ofInt 16 (x : Int) ^^^ BitVec.ofInt 16 (y : Int)).toNat : Int) = _
  rw [BitVec.toNat_xor, e1, e2]
  have := Nat.xor_lt_two_pow (n := 16) (x := x) (y := y) (by omega) (by omega)
  exact w_u16 (by omega)
theorem add_u32 {x y : Int} (h : 0 ≤ x + y ∧ x + y ≤ 4294967295) : bin .add .u32 x y = x + y := by
  rw [bin_is hA]; exact w_u32 h
theorem sub_u32 {x y : Int} (h : 0 ≤ x - y ∧ x - y ≤ 4294967295) : bin .sub .u32 x y = x - y := by
  rw [bin_is hA]; exact w_u32 h
theorem mul_u32 {x y : Int} (h : 0 ≤ x * y ∧ x * y ≤ 4294967295) : bin .mul .u32 x y = x * y := by
  rw [bin_is hA]; exact w_u32 h
theorem quo_u32 {x y : Int} (h0 : 0 ≤ x) (h1 : x ≤ 4294967295) (h2 : 0 ≤ y) : bin .quo .u32 x y = x / y := by
  rw [bin_is hA]
  show IntKind.u32.wrap (x.tdiv y) = _
  rw [Int.tdiv_eq_ediv_of_nonneg h0]
  refine w_u32 ?_
  have a := Int.ediv_nonneg h0 h2
  have b := Int.ediv_le_self y h0
  omega
theorem rem_u32 {x y : Int} (h0 : 0 ≤ x) : bin .rem .u32 x y = x % y := by
  rw [bin_is hA]
  exact Int.tmod_eq_emod_of_nonneg h0
theorem cnv_u32 {x : Int} (h : 0 ≤ x ∧ x ≤ 4294967295) : cnv .u32 x = x := by
  rw [cnv_is hA]; exact w_u32 h
theorem shr_u32 {x y : Int} (h1 : y < 32) : bin .shr .u32 x y = x / 2 ^ y.toNat := by
  rw [bin_is hA]
  show x.fdiv (2 ^ min y.toNat 32) = _
  rw [Nat.min_eq_left (by omega), Int.fdiv_eq_ediv_of_nonneg _ (Int.pow_nonneg (by decide))]
theorem shl_u32 {x y : Int} (h1 : y < 32) (h : 0 ≤ x * 2 ^ y.toNat ∧ x * 2 ^ y.toNat ≤ 4294967295) : bin .shl .u32 x y = x * 2 ^ y.toNat := by
  rw [bin_is hA]
  show IntKind.u32.wrap (x * 2 ^ min y.toNat 32) = _
  rw [Nat.min_eq_left (by omega)]
  exact w_u32 h
theorem shw_u32 {x y : Nat} (h1 : y < 32) : bin .shl .u32 x y = ((x * 2 ^ y % 4294967296 : Nat) : Int) := by
  rw [bin_is hA]
  show IntKind.u32.wrap ((x : Int) * 2 ^ min (y : Int).toNat 32) = _
  rw [Nat.min_eq_left (by omega)]
  have e : (x : Int) * 2 ^ (y : Int).toNat = ((x * 2 ^ y : Nat) : Int) := by push_cast; simp
  rw [e]
  generalize x * 2 ^ y = n
  have e2 : IntKind.u32.wrap (n : Int) = (n : Int) % 2 ^ 32 := by
    unfold IntKind.wrap
    exact if_neg (by simp [IntKind.signed])
  have e3 : ((2 : Int) ^ 32) = 4294967296 := rfl
  rw [e2, e3]
  omega
theorem shn_u32 {x y : Nat} (h1 : y < 32) : bin .shr .u32 x y = ((x / 2 ^ y : Nat) : Int) := by
  rw [bin_is hA]
  show (x : Int).fdiv (2 ^ min (y : Int).toNat 32) = _
  rw [Nat.min_eq_left (by omega), Int.fdiv_eq_ediv_of_nonneg _ (Int.pow_nonneg (by decide))]
  push_cast
  simp
theorem and_u32 {x y : Nat} (h1 : x ≤ 4294967295) (h2 : y ≤ 4294967295) : bin .and .u32 x y = ((x &&& y : Nat) : Int) := by
  rw [bin_is hA]
  have e1 : (BitVec.ofInt 32 (x : Int)).toNat = x := by rw [BitVec.ofInt_natCast, BitVec.toNat_ofNat, Nat.mod_eq_of_lt (by omega)]
  have e2 : (BitVec.ofInt 32 (y : Int)).toNat = y := by rw [BitVec.ofInt_natCast, BitVec.toNat_ofNat, Nat.mod_eq_of_lt (by omega)]
  show IntKind.u32.wrap ((BitVec.ofInt 32 (x : Int) &&& BitVec.ofInt 32 (y : Int)).toNat : Int) = _
  rw [BitVec.toNat_and, e1, e2]
  have := Nat.and_le_left (n := x) (m := y)
  exact w_u32 (by omega)
theorem or_u32 {x y : Nat} (h1 : x ≤ 4294967295) (h2 : y ≤ 4294967295) : bin .or .u32 x y = ((x ||| y : Nat) : Int) := by
  rw [bin_is hA]
  have e1 : (BitVec.ofInt 32 (x : Int)).toNat = x := by rw [BitVec.ofInt_natCast, BitVec.toNat_ofNat, Nat.mod_eq_of_lt (by omega)]
  have e2 : (BitVec.ofInt 32 (y : Int)).toNat = y := by rw [BitVec.ofInt_natCast, BitVec.toNat_ofNat, Nat.mod_eq_of_lt (by omega)]
  show IntKind.u32.wrap ((BitVec.ofInt 32 (x : Int) ||| BitVec.ofInt 32 (y : Int)).toNat : Int) = _
  rw [BitVec.toNat_or, e1, e2]
  have := Nat.or_lt_two_pow (n := 32) (x := x) (y := y) (by omega) (by omega)
  exact w_u32 (by omega)
theorem xor_u32 {x y : Nat} (h1 : x ≤ 4294967295) (h2 : y ≤ 4294967295) : bin .xor .u32 x y = ((x ^^^ y : Nat) : Int) := by
  rw [bin_is hA]
  have e1 : (BitVec.ofInt 32 (x : Int)).toNat = x := by rw [BitVec.ofInt_natCast, BitVec.toNat_ofNat, Nat.mod_eq_of_lt (by omega)]
  have e2 : (BitVec.ofInt 32 (y : Int)).toNat = y := by rw [BitVec.ofInt_natCast, BitVec.toNat_ofNat, Nat.mod_eq_of_lt (by omega)]
  show IntKind.u32.wrap ((BitVec.ofInt 32 (x : Int) ^^^ BitVec.ofInt 32 (y : Int)).toNat : Int) = _
  rw [BitVec.toNat_xor, e1, e2]
  have := Nat.xor_lt_two_pow (n := 32) (x := x) (y := y) (by omega) (by omega)
  exact w_u32 (by omega)
theorem add_u64 {x y : Int} (h : 0 ≤ x + y ∧ x + y ≤ 18446744073709551615) : bin .add .u64 x y = x + y := by
  rw [bin_is hA]; exact w_u64 h
theorem sub_u64 {x y : Int} (h : 0 ≤ x - y ∧ x - y ≤ 18446744073709551615) : bin .sub .u64 x y = x - y := by
  rw [bin_is hA]; exact w_u64 h
theorem mul_u64 {x y : Int} (h : 0 ≤ x * y ∧ x * y ≤ 18446744073709551615) : bin .mul .u64 x y = x * y := by
  rw [bin_is hA]; exact w_u64 h
theorem quo_u64 {x y : Int} (h0 : 0 ≤ x) (h1 : x ≤ 18446744073709551615) (h2 : 0 ≤ y) : bin .quo .u64 x y = x / y := by
  rw [bin_is hA]
  show IntKind.u64.wrap (x.tdiv y) = _
  rw [Int.tdiv_eq_ediv_of_nonneg h0]
  refine w_u64 ?_
  have a := Int.ediv_nonneg h0 h2
  have b := Int.ediv_le_self y h0
  omega
theorem rem_u64 {x y : Int} (h0 : 0 ≤ x) : bin .rem .u64 x y = x % y := by
  rw [bin_is hA]
  exact Int.tmod_eq_emod_of_nonneg h0
theorem cnv_u64 {x : Int} (h : 0 ≤ x ∧ x ≤ 18446744073709551615) : cnv .u64 x = x := by
  rw [cnv_is hA]; exact w_u64 h
theorem shr_u64 {x y : Int} (h1 : y < 64) : bin .shr .u64 x y = x / 2 ^ y.toNat := by
  rw [bin_is hA]
  show x.fdiv (2 ^ min y.toNat 64) = _
  rw [Nat.min_eq_left (by omega), Int.fdiv_eq_ediv_of_nonneg _ (Int.pow_nonneg (by decide))]
theorem shl_u64 {x y : Int} (h1 : y < 64) (h : 0 ≤ x * 2 ^ y.toNat ∧ x * 2 ^ y.toNat ≤ 18446744073709551615) : bin .shl .u64 x y = x * 2 ^ y.toNat := by
  rw [bin_is hA]
  show IntKind.u64.wrap (x * 2 ^ min y.toNat 64) = _
  rw [Nat.min_eq_left (by omega)]
  exact w_u64 h
theorem shw_u64 {x y : Nat} (h1 : y < 64) : bin .shl .u64 x y = ((x * 2 ^ y % 18446744073709551616 : Nat) : Int) := by
  rw [bin_is hA]
  show IntKind.u64.wrap ((x : Int) * 2 ^ min (y : Int).toNat 64) = _
  rw [Nat.min_eq_left (by omega)]
  have e : (x : Int) * 2 ^ (y : Int).toNat = ((x * 2 ^ y : Nat) : Int) := by push_cast; simp
  rw [e]
  generalize x * 2 ^ y = n
  have e2 : IntKind.u64.wrap (n : Int) = (n : Int) % 2 ^ 64 := by
    unfold IntKind.wrap
    exact if_neg (by simp [IntKind.signed])
  have e3 : ((2 : Int) ^ 64) = 18446744073709551616 := rfl
  rw [e2, e3]
  omega
theorem shn_u64 {x y : Nat} (h1 : y < 64) : bin .shr .u64 x y = ((x / 2 ^ y : Nat) : Int) := by
  rw [bin_is hA]
  show (x : Int).fdiv (2 ^ min (y : Int).toNat 64) = _
  rw [Nat.min_eq_left (by omega), Int.fdiv_eq_ediv_of_nonneg _ (Int.pow_nonneg (by decide))]
  push_cast
  simp
theorem and_u64 {x y : Nat} (h1 : x ≤ 18446744073709551615) (h2 : y ≤ 18446744073709551615) : bin .and .u64 x y = ((x &&& y : Nat) : Int) := by
  rw [bin_is hA]
  have e1 : (BitVec.ofInt 64 (x : Int)).toNat = x := by rw [BitVec.ofInt_natCast, BitVec.toNat_ofNat, Nat.mod_eq_of_lt (by omega)]
  have e2 : (BitVec.ofInt 64 (y : Int)).toNat = y := by rw [BitVec.ofInt_natCast, BitVec.toNat_ofNat, Nat.mod_eq_of_lt (by omega)]
  show IntKind.u64.wrap ((BitVec.ofInt 64 (x : Int) &&& BitVec.ofInt 64 (y : Int)).toNat : Int) = _
  rw [BitVec.toNat_and, e1, e2]
  have := Nat.and_le_left (n := x) (m := y)
  exact w_u64 (by omega)
theorem or_u64 {x y : Nat} (h1 : x ≤ 18446744073709551615) (h2 : y ≤ 18446744073709551615) : bin .or .u64 x y = ((x ||| y : Nat) : Int) := by
  rw [bin_is hA]
  have e1 : (BitVec.ofInt 64 (x : Int)).toNat = x := by rw [BitVec.ofInt_natCast, BitVec.toNat_ofNat, Nat.mod_eq_of_lt (by omega)]
  have e2 : (BitVec.ofInt 64 (y : Int)).toNat = y := by rw [BitVec.ofInt_natCast, BitVec.toNat_ofNat, Nat.mod_eq_of_lt (by omega)]
  show IntKind.u64.wrap ((BitVec.ofInt 64 (x : Int) ||| BitVec.ofInt 64 (y : Int)).toNat : Int) = _
  rw [BitVec.toNat_or, e1, e2]
  have := Nat.or_lt_two_pow (n := 64) (x := x) (y := y) (by omega) (by omega)
  exact w_u64 (by omega)
theorem xor_u64 {x y : Nat} (h1 : x ≤ 18446744073709551615) (h2 : y ≤ 18446744073709551615) : bin .xor .u64 x y = ((x ^^^ y : Nat) : Int) := by
  rw [bin_is hA]
  have e1 : (BitVec.ofInt 64 (x : Int)).toNat = x := by rw [BitVec.ofInt_natCast, BitVec.toNat_ofNat, Nat.mod_eq_of_lt (by omega)]
  have e2 : (BitVec.ofInt 64 (y : Int)).toNat = y := by rw [BitVec.ofInt_natCast, BitVec.toNat_ofNat, Nat.mod_eq_of_lt (by omega)]
  show IntKind.u64.wrap ((BitVec.ofInt 64 (x : Int) ^^^ BitVec.ofInt 64 (y : Int)).toNat : Int) = _
  rw [BitVec.toNat_xor, e1, e2]
  have := Nat.xor_lt_two_pow (n := 64) (x := x) (y := y) (by omega) (by omega)
  exact w_u64 (by omega)
theorem add_i16 {x y : Int} (h : -32768 ≤ x + y ∧ x + y ≤ 32767) : bin .add .i16 x y = x + y := by
  rw [bin_is hA]; exact w_i16 h
theorem sub_i16 {x y : Int} (h : -32768 ≤ x - y ∧ x - y ≤ 32767) : bin .sub .i16 x y = x - y := by
  rw [bin_is hA]; exact w_i16 h
theorem mul_i16 {x y : Int} (h : -32768 ≤ x * y ∧ x * y ≤ 32767) : bin .mul .i16 x y = x * y := by
  rw [bin_is hA]; exact w_i16 h
theorem quo_i16 {x y : Int} (h0 : 0 ≤ x) (h1 : x ≤ 32767) (h2 : 0 ≤ y) : bin .quo .i16 x y = x / y := by
  rw [bin_is hA]
  show IntKind.i16.wrap (x.tdiv y) = _
  rw [Int.tdiv_eq_ediv_of_nonneg h0]
  refine w_i16 ?_
  have a := Int.ediv_nonneg h0 h2
  have b := Int.ediv_le_self y h0
  omega
theorem rem_i16 {x y : Int} (h0 : 0 ≤ x) : bin .rem .i16 x y = x % y := by
  rw [bin_is hA]
  exact Int.tmod_eq_emod_of_nonneg h0
theorem cnv_i16 {x : Int} (h : -32768 ≤ x ∧ x ≤ 32767) : cnv .i16 x = x := by
  rw [cnv_is hA]; exact w_i16 h
theorem shr_i16 {x y : Int} (h1 : y < 16) : bin .shr .i16 x y = x / 2 ^ y.toNat := by
  rw [bin_is hA]
  show x.fdiv (2 ^ min y.toNat 16) = _
  rw [Nat.min_eq_left (by omega), Int.fdiv_eq_ediv_of_nonneg _ (Int.pow_nonneg (by decide))]
theorem shl_i16 {x y : Int} (h1 : y < 16) (h : -32768 ≤ x * 2 ^ y.toNat ∧ x * 2 ^ y.toNat ≤ 32767) : bin .shl .i16 x y = x * 2 ^ y.toNat := by
  rw [bin_is hA]
  show IntKind.i16.wrap (x * 2 ^ min y.toNat 16) = _
  rw [Nat.min_eq_left (by omega)]
  exact w_i16 h
theorem add_i8 {x y : Int} (h : -128 ≤ x + y ∧ x + y ≤ 127) : bin .add .i8 x y = x + y := by
  rw [bin_is hA]; exact w_i8 h
theorem sub_i8 {x y : Int} (h : -128 ≤ x - y ∧ x - y ≤ 127) : bin .sub .i8 x y = x - y := by
  rw [bin_is hA]; exact w_i8 h
theorem mul_i8 {x y : Int} (h : -128 ≤ x * y ∧ x * y ≤ 127) : bin .mul .i8 x y = x * y := by
  rw [bin_is hA]; exact w_i8 h
theorem quo_i8 {x y : Int} (h0 : 0 ≤ x) (h1 : x ≤ 127) (h2 : 0 ≤ y) : bin .quo .i8 x y = x / y := by
  rw [bin_is hA]
  show IntKind.i8.wrap (x.tdiv y) = _
  rw [Int.tdiv_eq_ediv_of_nonneg h0]
  refine w_i8 ?_
  have a := Int.ediv_nonneg h0 h2
  have b := Int.ediv_le_self y h0
  omega
theorem rem_i8 {x y : Int} (h0 : 0 ≤ x) : bin .rem .i8 x y = x % y := by
  rw [bin_is hA]
  exact Int.tmod_eq_emod_of_nonneg h0
theorem cnv_i8 {x : Int} (h : -128 ≤ x ∧ x ≤ 127) : cnv .i8 x = x := by
  rw [cnv_is hA]; exact w_i8 h
theorem shr_i8 {x y : Int} (h1 : y < 8) : bin .shr .i8 x y = x / 2 ^ y.toNat := by
  rw [bin_is hA]
  show x.fdiv (2 ^ min y.toNat 8) = _
  rw [Nat.min_eq_left (by omega), Int.fdiv_eq_ediv_of_nonneg _ (Int.pow_nonneg (by decide))]
theorem shl_i8 {x y : Int} (h1 : y < 8) (h : -128 ≤ x * 2 ^ y.toNat ∧ x * 2 ^ y.toNat ≤ 127) : bin .shl .i8 x y = x * 2 ^ y.toNat := by
  rw [bin_is hA]
  show IntKind.i8.wrap (x * 2 ^ min y.toNat 8) = _
  rw [Nat.min_eq_left (by omega)]
  exact w_i8 h
end

/-- A contract, by the body: the arithmetic's parts as names. -/
theorem retP_vc {P : Program} {f : Nat} {fn : Func} {c : Code} {tys : Nat → Option Ty} {fz : List Nat} {vs : List Value} {R : RO} {Ψ : RO → Value → Prop}
    (hf : P.funcs[f]? = some fn) (hb : fn.body = some c) (hn : fn.name ≠ "runtime.NumGoroutine") (hlen : Nat.ble vs.length fn.ntmps = true) (hT : TysOk P tys)
    (h : ∀ (P' : Program) (bin cmp cnv neg com bnot beq ofN toN at_ sub_ scmp cat sget ssz ssub elem fld_), P' = P → (⟨bin, cmp, cnv, neg, com, bnot, beq, ofN, toN, at_, sub_, scmp, cat, sget, ssz, ssub, elem, fld_⟩ : Ar) = Ar.real → codeVC ⟨P', ⟨bin, cmp, cnv, neg, com, bnot, beq, ofN, toN, at_, sub_, scmp, cat, sget, ssz, ssub, elem, fld_⟩, tys, fn.ntmps, fz⟩ c ⟨fr0 0 (vs.map .v), R, [], 0, []⟩
      (endVC ⟨P', ⟨bin, cmp, cnv, neg, com, bnot, beq, ofN, toN, at_, sub_, scmp, cat, sget, ssz, ssub, elem, fld_⟩, tys, fn.ntmps, fz⟩ fn.results.toList fun s r => ∀ ρ R'', s.R.le R'' → Pub s.hp ρ R'' → PubR s.rw_ R'' → Ψ R'' (val ρ r))) : RetP P f vs R Ψ :=
  retP_of_vc hf hb hn hlen hT fun P' ⟨bin1, cmp1, cnv1, neg1, com1, bnot1, beq1, ofN1, toN1, at_1, sub_1, scmp1, cat1, sget1, ssz1, ssub1, elem1, fld_1⟩ hP hA => h P' bin1 cmp1 cnv1 neg1 com1 bnot1 beq1 ofN1 toN1 at_1 sub_1 scmp1 cat1 sget1 ssz1 ssub1 elem1 fld_1 hP hA

end Go.Se
