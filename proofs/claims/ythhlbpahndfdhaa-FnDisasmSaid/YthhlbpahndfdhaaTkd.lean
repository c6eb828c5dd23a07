/- The tokenizer: numbers of bytes. -/
import Derived.Test.YthhlbpahndfdhaaTkc
set_option linter.unusedSimpArgs false
set_option linter.unusedVariables false
namespace Go.Proofs.Ythhlbpahndfdhaa.Tk
open Go Go.Se Go.Proofs Go.Proofs.Ythhlbpahndfdhaa.Tytok

theorem mix {P : Program} (hP : P = Try.prog) : P.follows .mixedOrders = true := by subst hP; rfl

theorem or_add {a b k : Nat} (h : a < 2 ^ k) : a ||| (b * 2 ^ k) = a + b * 2 ^ k := by
  have := Nat.shiftLeft_add_eq_or_of_lt h b
  rw [Nat.shiftLeft_eq] at this
  rw [Nat.or_comm, ← this, Nat.add_comm]


set_option maxRecDepth 100000 in
theorem uint16 {P : Program} (hP : P = Try.prog) (R : RO) (a : Option Addr) (n c : Nat) (xs : List Int) (h : RI R .u8 a n xs) (hn : 2 ≤ n) : RetP P 27 [.agg #[], .slice a n c] R fun _ v => ∃ r, v = .int .u16 r ∧ r = wordN (xs.take 2) := by
  subst hP
  have hl := h.len
  have hx : xs.take 2 = [xs.getD 0 0, xs.getD 1 0] := by
    match xs, (by omega : 2 ≤ xs.length) with
    | x :: y :: r, _ => rfl
  refine retP_vc (fz := []) Try.func27 rfl (by decide) rfl ok27 ?_
  intro P bin cmp cnv neg com bnot beq ofN toN at_ sub_ scmp cat sget ssz ssub elem fld_ hP hA
  conv => cbv
  refine ix_u8 hA h 1 rfl (by omega) ?_
  refine ld_u8 hA h (by omega) (by omega) ?_
  intro _ _ _ _
  conv => cbv
  refine ⟨[0, 1, 2, 3, 4, 5, 6, 7, 8, 9, 10], [], mix hP, by kernel_rfl, ?_⟩
  conv => cbv
  refine ix_u8 hA h 0 rfl (by omega) ?_
  refine ld_u8 hA h (by omega) (by omega) ?_
  intro b hb hb0 hb1
  obtain ⟨x0, rfl⟩ : ∃ x0 : Nat, b = x0 := ⟨b.toNat, by omega⟩
  have h0 : xs.getD 0 0 = x0 := hb.symm
  clear hb
  conv => cbv
  refine ix_u8 hA h 1 rfl (by omega) ?_
  refine ld_u8 hA h (by omega) (by omega) ?_
  intro b hb hb0 hb1
  obtain ⟨x1, rfl⟩ : ∃ x1 : Nat, b = x1 := ⟨b.toNat, by omega⟩
  have h1 : xs.getD 1 0 = x1 := hb.symm
  clear hb
  conv => cbv
  refine ⟨by decide, ?_⟩
  intro ρ R'' _ _ _
  refine ⟨_, rfl, ?_⟩
  show bin .or .u16 (cnv .u16 x0) (bin .shl .u16 (cnv .u16 x1) 8) = _
  have e0 : cnv .u16 (x0 : Int) = (x0 : Int) := cnv_u16 hA (by omega)
  have e1 : cnv .u16 (x1 : Int) = (x1 : Int) := cnv_u16 hA (by omega)
  have e2 : bin .shl .u16 (x1 : Int) 8 = ((x1 * 2 ^ 8 % 65536 : Nat) : Int) := shw_u16 hA (y := 8) (by decide)
  rw [e0, e1, e2, Nat.mod_eq_of_lt (by omega), or_u16 hA (by omega) (by omega), or_add (by omega), hx, h0, h1]
  simp only [wordN]
  omega

set_option maxRecDepth 100000 in
theorem uint32 {P : Program} (hP : P = Try.prog) (R : RO) (a : Option Addr) (n c : Nat) (xs : List Int) (h : RI R .u8 a n xs) (hn : 4 ≤ n) : RetP P 28 [.agg #[], .slice a n c] R fun _ v => ∃ r, v = .int .u32 r ∧ r = wordN (xs.take 4) := by
  subst hP
  have hl := h.len
  have hx : xs.take 4 = [xs.getD 0 0, xs.getD 1 0, xs.getD 2 0, xs.getD 3 0] := by
    match xs, (by omega : 4 ≤ xs.length) with
    | x :: y :: z :: u :: r, _ => rfl
  refine retP_vc (fz := []) Try.func28 rfl (by decide) rfl ok28 ?_
  intro P bin cmp cnv neg com bnot beq ofN toN at_ sub_ scmp cat sget ssz ssub elem fld_ hP hA
  conv => cbv
  refine ix_u8 hA h 3 rfl (by omega) ?_
  refine ld_u8 hA h (by omega) (by omega) ?_
  intro _ _ _ _
  conv => cbv
  refine ⟨[0, 1, 2, 3, 4, 5, 6, 7, 8, 9, 10, 11, 12, 13, 14, 15, 16, 17, 18, 19, 20, 21, 22], [], mix hP, by kernel_rfl, ?_⟩
  conv => cbv
  refine ix_u8 hA h 0 rfl (by omega) ?_
  refine ld_u8 hA h (by omega) (by omega) ?_
  intro b hb hb0 hb1
  obtain ⟨x0, rfl⟩ : ∃ x0 : Nat, b = x0 := ⟨b.toNat, by omega⟩
  have h0 : xs.getD 0 0 = x0 := hb.symm
  clear hb
  conv => cbv
  refine ix_u8 hA h 1 rfl (by omega) ?_
  refine ld_u8 hA h (by omega) (by omega) ?_
  intro b hb hb0 hb1
  obtain ⟨x1, rfl⟩ : ∃ x1 : Nat, b = x1 := ⟨b.toNat, by omega⟩
  have h1 : xs.getD 1 0 = x1 := hb.symm
  clear hb
  conv => cbv
  refine ⟨by decide, ?_⟩
  refine ix_u8 hA h 2 rfl (by omega) ?_
  refine ld_u8 hA h (by omega) (by omega) ?_
  intro b hb hb0 hb1
  obtain ⟨x2, rfl⟩ : ∃ x2 : Nat, b = x2 := ⟨b.toNat, by omega⟩
  have h2 : xs.getD 2 0 = x2 := hb.symm
  clear hb
  conv => cbv
  refine ⟨by decide, ?_⟩
  refine ix_u8 hA h 3 rfl (by omega) ?_
  refine ld_u8 hA h (by omega) (by omega) ?_
  intro b hb hb0 hb1
  obtain ⟨x3, rfl⟩ : ∃ x3 : Nat, b = x3 := ⟨b.toNat, by omega⟩
  have h3 : xs.getD 3 0 = x3 := hb.symm
  clear hb
  conv => cbv
  refine ⟨by decide, ?_⟩
  intro ρ R'' _ _ _
  refine ⟨_, rfl, ?_⟩
  show bin .or .u32 (bin .or .u32 (bin .or .u32 (cnv .u32 x0) (bin .shl .u32 (cnv .u32 x1) 8)) (bin .shl .u32 (cnv .u32 x2) 16)) (bin .shl .u32 (cnv .u32 x3) 24) = _
  have e0 : cnv .u32 (x0 : Int) = (x0 : Int) := cnv_u32 hA (by omega)
  have e1 : cnv .u32 (x1 : Int) = (x1 : Int) := cnv_u32 hA (by omega)
  have e2 : cnv .u32 (x2 : Int) = (x2 : Int) := cnv_u32 hA (by omega)
  have e3 : cnv .u32 (x3 : Int) = (x3 : Int) := cnv_u32 hA (by omega)
  have s1 : bin .shl .u32 (x1 : Int) 8 = ((x1 * 2 ^ 8 % 4294967296 : Nat) : Int) := shw_u32 hA (y := 8) (by decide)
  have s2 : bin .shl .u32 (x2 : Int) 16 = ((x2 * 2 ^ 16 % 4294967296 : Nat) : Int) := shw_u32 hA (y := 16) (by decide)
  have s3 : bin .shl .u32 (x3 : Int) 24 = ((x3 * 2 ^ 24 % 4294967296 : Nat) : Int) := shw_u32 hA (y := 24) (by decide)
  rw [e0, e1, e2, e3, s1, s2, s3, Nat.mod_eq_of_lt (by omega), Nat.mod_eq_of_lt (by omega), Nat.mod_eq_of_lt (by omega), or_u32 hA (by omega) (by omega), or_add (by omega),
    or_u32 hA (by omega) (by omega), or_add (by omega), or_u32 hA (by omega) (by omega), or_add (by omega), hx, h0, h1, h2, h3]
  simp only [wordN]
  omega
end Go.Proofs.Ythhlbpahndfdhaa.Tk
