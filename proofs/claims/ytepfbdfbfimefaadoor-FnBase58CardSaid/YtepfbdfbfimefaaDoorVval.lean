/- Bytes put together. -/
import Derived.Test.YtepfbdfbfimefaaDoorSu
set_option linter.unusedSimpArgs false
set_option linter.unusedVariables false
set_option linter.unusedSectionVars false
namespace Go.Proofs.YtepfbdfbfimefaaDoor.Vr
open Go Go.Se Go.Proofs

theorem orb {x y s : Nat} (h : x < 2 ^ s) : x ||| (y * 2 ^ s) = x + y * 2 ^ s := by
  rw [Nat.or_comm, Nat.mul_comm, ← Nat.two_pow_add_eq_or_of_lt h, Nat.add_comm]

section
variable {bin : BinOp → IntKind → Int → Int → Int} {cmp : BinOp → Int → Int → Bool} {cnv : IntKind → Int → Int} {neg : IntKind → Int → Int} {com : IntKind → Int → Int} {bnot : Bool → Bool} {beq : Bool → Bool → Bool} {ofN : Nat → Int} {toN : Int → Nat} {at_ : Nat → Nat → Nat → Nat} {sub_ : Nat → Nat → Nat} {scmp : BinOp → ByteArray → ByteArray → Bool} {cat : ByteArray → ByteArray → ByteArray} {sget : ByteArray → Int → Int} {ssz : ByteArray → Nat} {ssub : ByteArray → Nat → Nat → ByteArray} {elem : Option Addr → Int → Nat → Addr} {fld_ : Addr → Nat → Addr}
  (hA : (⟨bin, cmp, cnv, neg, com, bnot, beq, ofN, toN, at_, sub_, scmp, cat, sget, ssz, ssub, elem, fld_⟩ : Ar) = Ar.real)
include hA

theorem or16 {x y s : Nat} (h : x < 2 ^ s) (hs : s < 16) (hb : x + y * 2 ^ s < 65536) {si : Int} (hsi : si = s) : bin .or .u16 (x : Int) (bin .shl .u16 (y : Int) si) = ((x + y * 2 ^ s : Nat) : Int) := by
  subst hsi
  have e : bin .shl .u16 (y : Int) (s : Int) = ((y * 2 ^ s : Nat) : Int) := by
    rw [shw_u16 hA hs, Nat.mod_eq_of_lt (by omega)]
  rw [e, or_u16 hA (by omega) (by omega), orb h]

theorem or32 {x y s : Nat} (h : x < 2 ^ s) (hs : s < 32) (hb : x + y * 2 ^ s < 4294967296) {si : Int} (hsi : si = s) : bin .or .u32 (x : Int) (bin .shl .u32 (y : Int) si) = ((x + y * 2 ^ s : Nat) : Int) := by
  subst hsi
  have e : bin .shl .u32 (y : Int) (s : Int) = ((y * 2 ^ s : Nat) : Int) := by
    rw [shw_u32 hA hs, Nat.mod_eq_of_lt (by omega)]
  rw [e, or_u32 hA (by omega) (by omega), orb h]

theorem or64 {x y s : Nat} (h : x < 2 ^ s) (hs : s < 64) (hb : x + y * 2 ^ s < 18446744073709551616) {si : Int} (hsi : si = s) : bin .or .u64 (x : Int) (bin .shl .u64 (y : Int) si) = ((x + y * 2 ^ s : Nat) : Int) := by
  subst hsi
  have e : bin .shl .u64 (y : Int) (s : Int) = ((y * 2 ^ s : Nat) : Int) := by
    rw [shw_u64 hA hs, Nat.mod_eq_of_lt (by omega)]
  rw [e, or_u64 hA (by omega) (by omega), orb h]

theorem val2 {v : Nat} (hv : v < 65536) {D0 D1 : Int} (h0 : D0 = ((v / 256 ^ 0 % 256 : Nat) : Int)) (h1 : D1 = ((v / 256 ^ 1 % 256 : Nat) : Int)) :
    cnv .u64 (bin .or .u16 (cnv .u16 D0) (bin .shl .u16 (cnv .u16 D1) 8)) = (v : Int) := by
  simp only [Nat.reducePow] at h0 h1
  rw [cnv_u16 hA (by omega), cnv_u16 hA (by omega), h0, h1, or16 hA (s := 8) (si := 8) (by omega) (by omega) (by omega) rfl, cnv_u64 hA (by omega)]
  omega

theorem val4 {v : Nat} (hv : v < 4294967296) {D0 D1 D2 D3 : Int} (h0 : D0 = ((v / 256 ^ 0 % 256 : Nat) : Int)) (h1 : D1 = ((v / 256 ^ 1 % 256 : Nat) : Int)) (h2 : D2 = ((v / 256 ^ 2 % 256 : Nat) : Int)) (h3 : D3 = ((v / 256 ^ 3 % 256 : Nat) : Int)) :
    cnv .u64 (bin .or .u32 (bin .or .u32 (bin .or .u32 (cnv .u32 D0) (bin .shl .u32 (cnv .u32 D1) 8)) (bin .shl .u32 (cnv .u32 D2) 16)) (bin .shl .u32 (cnv .u32 D3) 24)) = (v : Int) := by
  simp only [Nat.reducePow] at h0 h1 h2 h3
  rw [cnv_u32 hA (by omega), cnv_u32 hA (by omega), cnv_u32 hA (by omega), cnv_u32 hA (by omega), h0, h1, h2, h3, or32 hA (s := 8) (si := 8) (by omega) (by omega) (by omega) rfl, or32 hA (s := 16) (si := 16) (by omega) (by omega) (by omega) rfl, or32 hA (s := 24) (si := 24) (by omega) (by omega) (by omega) rfl, cnv_u64 hA (by omega)]
  omega

theorem val8 {v : Nat} (hv : v < 18446744073709551616) {D0 D1 D2 D3 D4 D5 D6 D7 : Int} (h0 : D0 = ((v / 256 ^ 0 % 256 : Nat) : Int)) (h1 : D1 = ((v / 256 ^ 1 % 256 : Nat) : Int)) (h2 : D2 = ((v / 256 ^ 2 % 256 : Nat) : Int)) (h3 : D3 = ((v / 256 ^ 3 % 256 : Nat) : Int))
    (h4 : D4 = ((v / 256 ^ 4 % 256 : Nat) : Int)) (h5 : D5 = ((v / 256 ^ 5 % 256 : Nat) : Int)) (h6 : D6 = ((v / 256 ^ 6 % 256 : Nat) : Int)) (h7 : D7 = ((v / 256 ^ 7 % 256 : Nat) : Int)) :
    bin .or .u64 (bin .or .u64 (bin .or .u64 (bin .or .u64 (bin .or .u64 (bin .or .u64 (bin .or .u64 (cnv .u64 D0) (bin .shl .u64 (cnv .u64 D1) 8)) (bin .shl .u64 (cnv .u64 D2) 16)) (bin .shl .u64 (cnv .u64 D3) 24)) (bin .shl .u64 (cnv .u64 D4) 32)) (bin .shl .u64 (cnv .u64 D5) 40)) (bin .shl .u64 (cnv .u64 D6) 48)) (bin .shl .u64 (cnv .u64 D7) 56) = (v : Int) := by
  simp only [Nat.reducePow] at h0 h1 h2 h3 h4 h5 h6 h7
  rw [cnv_u64 hA (by omega : 0 ≤ D0 ∧ D0 ≤ 18446744073709551615), cnv_u64 hA (by omega : 0 ≤ D1 ∧ D1 ≤ 18446744073709551615), cnv_u64 hA (by omega : 0 ≤ D2 ∧ D2 ≤ 18446744073709551615), cnv_u64 hA (by omega : 0 ≤ D3 ∧ D3 ≤ 18446744073709551615), cnv_u64 hA (by omega : 0 ≤ D4 ∧ D4 ≤ 18446744073709551615), cnv_u64 hA (by omega : 0 ≤ D5 ∧ D5 ≤ 18446744073709551615), cnv_u64 hA (by omega : 0 ≤ D6 ∧ D6 ≤ 18446744073709551615), cnv_u64 hA (by omega : 0 ≤ D7 ∧ D7 ≤ 18446744073709551615),
    h0, h1, h2, h3, h4, h5, h6, h7, or64 hA (s := 8) (si := 8) (by omega) (by omega) (by omega) rfl, or64 hA (s := 16) (si := 16) (by omega) (by omega) (by omega) rfl, or64 hA (s := 24) (si := 24) (by omega) (by omega) (by omega) rfl, or64 hA (s := 32) (si := 32) (by omega) (by omega) (by omega) rfl, or64 hA (s := 40) (si := 40) (by omega) (by omega) (by omega) rfl, or64 hA (s := 48) (si := 48) (by omega) (by omega) (by omega) rfl, or64 hA (s := 56) (si := 56) (by omega) (by omega) (by omega) rfl]
  omega
end
end Go.Proofs.YtepfbdfbfimefaaDoor.Vr
