/- The table of opcodes. -/
import Derived.Test.YthhlbpahndfdhaaDsn
import Derived.Test.YthhlbpahndfdhaaSv
import Derived.Test.YthhlbpahndfdhaaTydo
set_option linter.unusedSimpArgs false
set_option linter.unusedVariables false
namespace Go.Proofs.Ythhlbpahndfdhaa.Ds
open Go Go.Se Go.Proofs Go.Proofs.Ythhlbpahndfdhaa.Tydo

/-- How long an opcode is with what it pushes; below 0: so many bytes tell it. -/
def oplen (b : Int) : Int := if 1 ≤ b ∧ b ≤ 75 then b + 1 else if b = 76 then -1 else if b = 77 then -2 else if b = 78 then -4 else 1

theorem step {cmp : BinOp → Int → Int → Bool} (he : ∀ x y, cmp .eql x y = (x == y)) {x k : Int} (h0 : k ≤ x) (hb : cmp .eql x k = false) : k + 1 ≤ x := by
  rw [he] at hb
  simp at hb
  omega

theorem ne_ {cmp : BinOp → Int → Int → Bool} (he : ∀ x y, cmp .eql x y = (x == y)) {x k : Int} (hb : cmp .eql x k = false) : x ≠ k := by
  rw [he] at hb
  simpa using hb

theorem same_ {cmp : BinOp → Int → Int → Bool} (he : ∀ x y, cmp .eql x y = (x == y)) {x k : Int} (hb : cmp .eql x k = true) : x = k := by
  rw [he] at hb
  simpa using hb

set_option maxRecDepth 1000000 in
set_option maxHeartbeats 40000000 in
theorem opcodeOf {P : Program} (hP : P = Try.prog) (R : RO) (x : Int) (h0 : 0 ≤ x) (h1 : x ≤ 255) : RetP P 26 [.int .u8 x] R fun R' v => ∃ ad, v = .pointer (some ad) ∧ CellsAt R' ad [.int .u8 x, .string (nmB x), .int .i64 (oplen x)] := by
  subst hP
  refine retP_vc (fz := [0, 3]) Try.func26 rfl (by decide) rfl ok26 ?_
  intro P bin cmp cnv neg com bnot beq ofN toN at_ sub_ scmp cat sget ssz ssub elem fld_ hP hA
  conv => cbv
  have he := cmp_eql hA
  refine br_of (fun hb => ?_) (fun hb => ?_)
  · have hx := same_ he hb
    subst hx
    conv => cbv
    intro ρ R'' hle hpub _
    exact ⟨⟨ρ 0, 0, none⟩, rfl, CellsAt.blk (hpub 0 _ rfl)⟩
  have n0 := ne_ he hb
  clear hb
  have h0 : 1 ≤ x := by omega
  clear n0
  conv => cbv
  refine br_of (fun hb => ?_) (fun hb => ?_)
  · have hx := same_ he hb
    subst hx
    conv => cbv
    intro ρ R'' hle hpub _
    exact ⟨⟨ρ 0, 0, none⟩, rfl, CellsAt.blk (hpub 0 _ rfl)⟩
  have n1 := ne_ he hb
  clear hb
  have h0 : 2 ≤ x := by omega
  clear n1
  conv => cbv
  refine br_of (fun hb => ?_) (fun hb => ?_)
  · have hx := same_ he hb
    subst hx
    conv => cbv
    intro ρ R'' hle hpub _
    exact ⟨⟨ρ 0, 0, none⟩, rfl, CellsAt.blk (hpub 0 _ rfl)⟩
  have n2 := ne_ he hb
  clear hb
  have h0 : 3 ≤ x := by omega
  clear n2
  conv => cbv
  refine br_of (fun hb => ?_) (fun hb => ?_)
  · have hx := same_ he hb
    subst hx
    conv => cbv
    intro ρ R'' hle hpub _
    exact ⟨⟨ρ 0, 0, none⟩, rfl, CellsAt.blk (hpub 0 _ rfl)⟩
  have n3 := ne_ he hb
  clear hb
  have h0 : 4 ≤ x := by omega
  clear n3
  conv => cbv
  refine br_of (fun hb => ?_) (fun hb => ?_)
  · have hx := same_ he hb
    subst hx
    conv => cbv
    intro ρ R'' hle hpub _
    exact ⟨⟨ρ 0, 0, none⟩, rfl, CellsAt.blk (hpub 0 _ rfl)⟩
  have n4 := ne_ he hb
  clear hb
  have h0 : 5 ≤ x := by omega
  clear n4
  conv => cbv
  refine br_of (fun hb => ?_) (fun hb => ?_)
  · have hx := same_ he hb
    subst hx
    conv => cbv
    intro ρ R'' hle hpub _
    exact ⟨⟨ρ 0, 0, none⟩, rfl, CellsAt.blk (hpub 0 _ rfl)⟩
  have n5 := ne_ he hb
  clear hb
  have h0 : 6 ≤ x := by omega
  clear n5
  conv => cbv
  refine br_of (fun hb => ?_) (fun hb => ?_)
  · have hx := same_ he hb
    subst hx
    conv => cbv
    intro ρ R'' hle hpub _
    exact ⟨⟨ρ 0, 0, none⟩, rfl, CellsAt.blk (hpub 0 _ rfl)⟩
  have n6 := ne_ he hb
  clear hb
  have h0 : 7 ≤ x := by omega
  clear n6
  conv => cbv
  refine br_of (fun hb => ?_) (fun hb => ?_)
  · have hx := same_ he hb
    subst hx
    conv => cbv
    intro ρ R'' hle hpub _
    exact ⟨⟨ρ 0, 0, none⟩, rfl, CellsAt.blk (hpub 0 _ rfl)⟩
  have n7 := ne_ he hb
  clear hb
  have h0 : 8 ≤ x := by omega
  clear n7
  conv => cbv
  refine br_of (fun hb => ?_) (fun hb => ?_)
  · have hx := same_ he hb
    subst hx
    conv => cbv
    intro ρ R'' hle hpub _
    exact ⟨⟨ρ 0, 0, none⟩, rfl, CellsAt.blk (hpub 0 _ rfl)⟩
  have n8 := ne_ he hb
  clear hb
  have h0 : 9 ≤ x := by omega
  clear n8
  conv => cbv
  refine br_of (fun hb => ?_) (fun hb => ?_)
  · have hx := same_ he hb
    subst hx
    conv => cbv
    intro ρ R'' hle hpub _
    exact ⟨⟨ρ 0, 0, none⟩, rfl, CellsAt.blk (hpub 0 _ rfl)⟩
  have n9 := ne_ he hb
  clear hb
  have h0 : 10 ≤ x := by omega
  clear n9
  conv => cbv
  refine br_of (fun hb => ?_) (fun hb => ?_)
  · have hx := same_ he hb
    subst hx
    conv => cbv
    intro ρ R'' hle hpub _
    exact ⟨⟨ρ 0, 0, none⟩, rfl, CellsAt.blk (hpub 0 _ rfl)⟩
  have n10 := ne_ he hb
  clear hb
  have h0 : 11 ≤ x := by omega
  clear n10
  conv => cbv
  refine br_of (fun hb => ?_) (fun hb => ?_)
  · have hx := same_ he hb
    subst hx
    conv => cbv
    intro ρ R'' hle hpub _
    exact ⟨⟨ρ 0, 0, none⟩, rfl, CellsAt.blk (hpub 0 _ rfl)⟩
  have n11 := ne_ he hb
  clear hb
  have h0 : 12 ≤ x := by omega
  clear n11
  conv => cbv
  refine br_of (fun hb => ?_) (fun hb => ?_)
  · have hx := same_ he hb
    subst hx
    conv => cbv
    intro ρ R'' hle hpub _
    exact ⟨⟨ρ 0, 0, none⟩, rfl, CellsAt.blk (hpub 0 _ rfl)⟩
  have n12 := ne_ he hb
  clear hb
  have h0 : 13 ≤ x := by omega
  clear n12
  conv => cbv
  refine br_of (fun hb => ?_) (fun hb => ?_)
  · have hx := same_ he hb
    subst hx
    conv => cbv
    intro ρ R'' hle hpub _
    exact ⟨⟨ρ 0, 0, none⟩, rfl, CellsAt.blk (hpub 0 _ rfl)⟩
  have n13 := ne_ he hb
  clear hb
  have h0 : 14 ≤ x := by omega
  clear n13
  conv => cbv
  refine br_of (fun hb => ?_) (fun hb => ?_)
  · have hx := same_ he hb
    subst hx
    conv => cbv
    intro ρ R'' hle hpub _
    exact ⟨⟨ρ 0, 0, none⟩, rfl, CellsAt.blk (hpub 0 _ rfl)⟩
  have n14 := ne_ he hb
  clear hb
  have h0 : 15 ≤ x := by omega
  clear n14
  conv => cbv
  refine br_of (fun hb => ?_) (fun hb => ?_)
  · have hx := same_ he hb
    subst hx
    conv => cbv
    intro ρ R'' hle hpub _
    exact ⟨⟨ρ 0, 0, none⟩, rfl, CellsAt.blk (hpub 0 _ rfl)⟩
  have n15 := ne_ he hb
  clear hb
  have h0 : 16 ≤ x := by omega
  clear n15
  conv => cbv
  refine br_of (fun hb => ?_) (fun hb => ?_)
  · have hx := same_ he hb
    subst hx
    conv => cbv
    intro ρ R'' hle hpub _
    exact ⟨⟨ρ 0, 0, none⟩, rfl, CellsAt.blk (hpub 0 _ rfl)⟩
  have n16 := ne_ he hb
  clear hb
  have h0 : 17 ≤ x := by omega
  clear n16
  conv => cbv
  refine br_of (fun hb => ?_) (fun hb => ?_)
  · have hx := same_ he hb
    subst hx
    conv => cbv
    intro ρ R'' hle hpub _
    exact ⟨⟨ρ 0, 0, none⟩, rfl, CellsAt.blk (hpub 0 _ rfl)⟩
  have n17 := ne_ he hb
  clear hb
  have h0 : 18 ≤ x := by omega
  clear n17
  conv => cbv
  refine br_of (fun hb => ?_) (fun hb => ?_)
  · have hx := same_ he hb
    subst hx
    conv => cbv
    intro ρ R'' hle hpub _
    exact ⟨⟨ρ 0, 0, none⟩, rfl, CellsAt.blk (hpub 0 _ rfl)⟩
  have n18 := ne_ he hb
  clear hb
  have h0 : 19 ≤ x := by omega
  clear n18
  conv => cbv
  refine br_of (fun hb => ?_) (fun hb => ?_)
  · have hx := same_ he hb
    subst hx
    conv => cbv
    intro ρ R'' hle hpub _
    exact ⟨⟨ρ 0, 0, none⟩, rfl, CellsAt.blk (hpub 0 _ rfl)⟩
  have n19 := ne_ he hb
  clear hb
  have h0 : 20 ≤ x := by omega
  clear n19
  conv => cbv
  refine br_of (fun hb => ?_) (fun hb => ?_)
  · have hx := same_ he hb
    subst hx
    conv => cbv
    intro ρ R'' hle hpub _
    exact ⟨⟨ρ 0, 0, none⟩, rfl, CellsAt.blk (hpub 0 _ rfl)⟩
  have n20 := ne_ he hb
  clear hb
  have h0 : 21 ≤ x := by omega
  clear n20
  conv => cbv
  refine br_of (fun hb => ?_) (fun hb => ?_)
  · have hx := same_ he hb
    subst hx
    conv => cbv
    intro ρ R'' hle hpub _
    exact ⟨⟨ρ 0, 0, none⟩, rfl, CellsAt.blk (hpub 0 _ rfl)⟩
  have n21 := ne_ he hb
  clear hb
  have h0 : 22 ≤ x := by omega
  clear n21
  conv => cbv
  refine br_of (fun hb => ?_) (fun hb => ?_)
  · have hx := same_ he hb
    subst hx
    conv => cbv
    intro ρ R'' hle hpub _
    exact ⟨⟨ρ 0, 0, none⟩, rfl, CellsAt.blk (hpub 0 _ rfl)⟩
  have n22 := ne_ he hb
  clear hb
  have h0 : 23 ≤ x := by omega
  clear n22
  conv => cbv
  refine br_of (fun hb => ?_) (fun hb => ?_)
  · have hx := same_ he hb
    subst hx
    conv => cbv
    intro ρ R'' hle hpub _
    exact ⟨⟨ρ 0, 0, none⟩, rfl, CellsAt.blk (hpub 0 _ rfl)⟩
  have n23 := ne_ he hb
  clear hb
  have h0 : 24 ≤ x := by omega
  clear n23
  conv => cbv
  refine br_of (fun hb => ?_) (fun hb => ?_)
  · have hx := same_ he hb
    subst hx
    conv => cbv
    intro ρ R'' hle hpub _
    exact ⟨⟨ρ 0, 0, none⟩, rfl, CellsAt.blk (hpub 0 _ rfl)⟩
  have n24 := ne_ he hb
  clear hb
  have h0 : 25 ≤ x := by omega
  clear n24
  conv => cbv
  refine br_of (fun hb => ?_) (fun hb => ?_)
  · have hx := same_ he hb
    subst hx
    conv => cbv
    intro ρ R'' hle hpub _
    exact ⟨⟨ρ 0, 0, none⟩, rfl, CellsAt.blk (hpub 0 _ rfl)⟩
  have n25 := ne_ he hb
  clear hb
  have h0 : 26 ≤ x := by omega
  clear n25
  conv => cbv
  refine br_of (fun hb => ?_) (fun hb => ?_)
  · have hx := same_ he hb
    subst hx
    conv => cbv
    intro ρ R'' hle hpub _
    exact ⟨⟨ρ 0, 0, none⟩, rfl, CellsAt.blk (hpub 0 _ rfl)⟩
  have n26 := ne_ he hb
  clear hb
  have h0 : 27 ≤ x := by omega
  clear n26
  conv => cbv
  refine br_of (fun hb => ?_) (fun hb => ?_)
  · have hx := same_ he hb
    subst hx
    conv => cbv
    intro ρ R'' hle hpub _
    exact ⟨⟨ρ 0, 0, none⟩, rfl, CellsAt.blk (hpub 0 _ rfl)⟩
  have n27 := ne_ he hb
  clear hb
  have h0 : 28 ≤ x := by omega
  clear n27
  conv => cbv
  refine br_of (fun hb => ?_) (fun hb => ?_)
  · have hx := same_ he hb
    subst hx
    conv => cbv
    intro ρ R'' hle hpub _
    exact ⟨⟨ρ 0, 0, none⟩, rfl, CellsAt.blk (hpub 0 _ rfl)⟩
  have n28 := ne_ he hb
  clear hb
  have h0 : 29 ≤ x := by omega
  clear n28
  conv => cbv
  refine br_of (fun hb => ?_) (fun hb => ?_)
  · have hx := same_ he hb
    subst hx
    conv => cbv
    intro ρ R'' hle hpub _
    exact ⟨⟨ρ 0, 0, none⟩, rfl, CellsAt.blk (hpub 0 _ rfl)⟩
  have n29 := ne_ he hb
  clear hb
  have h0 : 30 ≤ x := by omega
  clear n29
  conv => cbv
  refine br_of (fun hb => ?_) (fun hb => ?_)
  · have hx := same_ he hb
    subst hx
    conv => cbv
    intro ρ R'' hle hpub _
    exact ⟨⟨ρ 0, 0, none⟩, rfl, CellsAt.blk (hpub 0 _ rfl)⟩
  have n30 := ne_ he hb
  clear hb
  have h0 : 31 ≤ x := by omega
  clear n30
  conv => cbv
  refine br_of (fun hb => ?_) (fun hb => ?_)
  · have hx := same_ he hb
    subst hx
    conv => cbv
    intro ρ R'' hle hpub _
    exact ⟨⟨ρ 0, 0, none⟩, rfl, CellsAt.blk (hpub 0 _ rfl)⟩
  have n31 := ne_ he hb
  clear hb
  have h0 : 32 ≤ x := by omega
  clear n31
  conv => cbv
  refine br_of (fun hb => ?_) (fun hb => ?_)
  · have hx := same_ he hb
    subst hx
    conv => cbv
    intro ρ R'' hle hpub _
    exact ⟨⟨ρ 0, 0, none⟩, rfl, CellsAt.blk (hpub 0 _ rfl)⟩
  have n32 := ne_ he hb
  clear hb
  have h0 : 33 ≤ x := by omega
  clear n32
  conv => cbv
  refine br_of (fun hb => ?_) (fun hb => ?_)
  · have hx := same_ he hb
    subst hx
    conv => cbv
    intro ρ R'' hle hpub _
    exact ⟨⟨ρ 0, 0, none⟩, rfl, CellsAt.blk (hpub 0 _ rfl)⟩
  have n33 := ne_ he hb
  clear hb
  have h0 : 34 ≤ x := by omega
  clear n33
  conv => cbv
  refine br_of (fun hb => ?_) (fun hb => ?_)
  · have hx := same_ he hb
    subst hx
    conv => cbv
    intro ρ R'' hle hpub _
    exact ⟨⟨ρ 0, 0, none⟩, rfl, CellsAt.blk (hpub 0 _ rfl)⟩
  have n34 := ne_ he hb
  clear hb
  have h0 : 35 ≤ x := by omega
  clear n34
  conv => cbv
  refine br_of (fun hb => ?_) (fun hb => ?_)
  · have hx := same_ he hb
    subst hx
    conv => cbv
    intro ρ R'' hle hpub _
    exact ⟨⟨ρ 0, 0, none⟩, rfl, CellsAt.blk (hpub 0 _ rfl)⟩
  have n35 := ne_ he hb
  clear hb
  have h0 : 36 ≤ x := by omega
  clear n35
  conv => cbv
  refine br_of (fun hb => ?_) (fun hb => ?_)
  · have hx := same_ he hb
    subst hx
    conv => cbv
    intro ρ R'' hle hpub _
    exact ⟨⟨ρ 0, 0, none⟩, rfl, CellsAt.blk (hpub 0 _ rfl)⟩
  have n36 := ne_ he hb
  clear hb
  have h0 : 37 ≤ x := by omega
  clear n36
  conv => cbv
  refine br_of (fun hb => ?_) (fun hb => ?_)
  · have hx := same_ he hb
    subst hx
    conv => cbv
    intro ρ R'' hle hpub _
    exact ⟨⟨ρ 0, 0, none⟩, rfl, CellsAt.blk (hpub 0 _ rfl)⟩
  have n37 := ne_ he hb
  clear hb
  have h0 : 38 ≤ x := by omega
  clear n37
  conv => cbv
  refine br_of (fun hb => ?_) (fun hb => ?_)
  · have hx := same_ he hb
    subst hx
    conv => cbv
    intro ρ R'' hle hpub _
    exact ⟨⟨ρ 0, 0, none⟩, rfl, CellsAt.blk (hpub 0 _ rfl)⟩
  have n38 := ne_ he hb
  clear hb
  have h0 : 39 ≤ x := by omega
  clear n38
  conv => cbv
  refine br_of (fun hb => ?_) (fun hb => ?_)
  · have hx := same_ he hb
    subst hx
    conv => cbv
    intro ρ R'' hle hpub _
    exact ⟨⟨ρ 0, 0, none⟩, rfl, CellsAt.blk (hpub 0 _ rfl)⟩
  have n39 := ne_ he hb
  clear hb
  have h0 : 40 ≤ x := by omega
  clear n39
  conv => cbv
  refine br_of (fun hb => ?_) (fun hb => ?_)
  · have hx := same_ he hb
    subst hx
    conv => cbv
    intro ρ R'' hle hpub _
    exact ⟨⟨ρ 0, 0, none⟩, rfl, CellsAt.blk (hpub 0 _ rfl)⟩
  have n40 := ne_ he hb
  clear hb
  have h0 : 41 ≤ x := by omega
  clear n40
  conv => cbv
  refine br_of (fun hb => ?_) (fun hb => ?_)
  · have hx := same_ he hb
    subst hx
    conv => cbv
    intro ρ R'' hle hpub _
    exact ⟨⟨ρ 0, 0, none⟩, rfl, CellsAt.blk (hpub 0 _ rfl)⟩
  have n41 := ne_ he hb
  clear hb
  have h0 : 42 ≤ x := by omega
  clear n41
  conv => cbv
  refine br_of (fun hb => ?_) (fun hb => ?_)
  · have hx := same_ he hb
    subst hx
    conv => cbv
    intro ρ R'' hle hpub _
    exact ⟨⟨ρ 0, 0, none⟩, rfl, CellsAt.blk (hpub 0 _ rfl)⟩
  have n42 := ne_ he hb
  clear hb
  have h0 : 43 ≤ x := by omega
  clear n42
  conv => cbv
  refine br_of (fun hb => ?_) (fun hb => ?_)
  · have hx := same_ he hb
    subst hx
    conv => cbv
    intro ρ R'' hle hpub _
    exact ⟨⟨ρ 0, 0, none⟩, rfl, CellsAt.blk (hpub 0 _ rfl)⟩
  have n43 := ne_ he hb
  clear hb
  have h0 : 44 ≤ x := by omega
  clear n43
  conv => cbv
  refine br_of (fun hb => ?_) (fun hb => ?_)
  · have hx := same_ he hb
    subst hx
    conv => cbv
    intro ρ R'' hle hpub _
    exact ⟨⟨ρ 0, 0, none⟩, rfl, CellsAt.blk (hpub 0 _ rfl)⟩
  have n44 := ne_ he hb
  clear hb
  have h0 : 45 ≤ x := by omega
  clear n44
  conv => cbv
  refine br_of (fun hb => ?_) (fun hb => ?_)
  · have hx := same_ he hb
    subst hx
    conv => cbv
    intro ρ R'' hle hpub _
    exact ⟨⟨ρ 0, 0, none⟩, rfl, CellsAt.blk (hpub 0 _ rfl)⟩
  have n45 := ne_ he hb
  clear hb
  have h0 : 46 ≤ x := by omega
  clear n45
  conv => cbv
  refine br_of (fun hb => ?_) (fun hb => ?_)
  · have hx := same_ he hb
    subst hx
    conv => cbv
    intro ρ R'' hle hpub _
    exact ⟨⟨ρ 0, 0, none⟩, rfl, CellsAt.blk (hpub 0 _ rfl)⟩
  have n46 := ne_ he hb
  clear hb
  have h0 : 47 ≤ x := by omega
  clear n46
  conv => cbv
  refine br_of (fun hb => ?_) (fun hb => ?_)
  · have hx := same_ he hb
    subst hx
    conv => cbv
    intro ρ R'' hle hpub _
    exact ⟨⟨ρ 0, 0, none⟩, rfl, CellsAt.blk (hpub 0 _ rfl)⟩
  have n47 := ne_ he hb
  clear hb
  have h0 : 48 ≤ x := by omega
  clear n47
  conv => cbv
  refine br_of (fun hb => ?_) (fun hb => ?_)
  · have hx := same_ he hb
    subst hx
    conv => cbv
    intro ρ R'' hle hpub _
    exact ⟨⟨ρ 0, 0, none⟩, rfl, CellsAt.blk (hpub 0 _ rfl)⟩
  have n48 := ne_ he hb
  clear hb
  have h0 : 49 ≤ x := by omega
  clear n48
  conv => cbv
  refine br_of (fun hb => ?_) (fun hb => ?_)
  · have hx := same_ he hb
    subst hx
    conv => cbv
    intro ρ R'' hle hpub _
    exact ⟨⟨ρ 0, 0, none⟩, rfl, CellsAt.blk (hpub 0 _ rfl)⟩
  have n49 := ne_ he hb
  clear hb
  have h0 : 50 ≤ x := by omega
  clear n49
  conv => cbv
  refine br_of (fun hb => ?_) (fun hb => ?_)
  · have hx := same_ he hb
    subst hx
    conv => cbv
    intro ρ R'' hle hpub _
    exact ⟨⟨ρ 0, 0, none⟩, rfl, CellsAt.blk (hpub 0 _ rfl)⟩
  have n50 := ne_ he hb
  clear hb
  have h0 : 51 ≤ x := by omega
  clear n50
  conv => cbv
  refine br_of (fun hb => ?_) (fun hb => ?_)
  · have hx := same_ he hb
    subst hx
    conv => cbv
    intro ρ R'' hle hpub _
    exact ⟨⟨ρ 0, 0, none⟩, rfl, CellsAt.blk (hpub 0 _ rfl)⟩
  have n51 := ne_ he hb
  clear hb
  have h0 : 52 ≤ x := by omega
  clear n51
  conv => cbv
  refine br_of (fun hb => ?_) (fun hb => ?_)
  · have hx := same_ he hb
    subst hx
    conv => cbv
    intro ρ R'' hle hpub _
    exact ⟨⟨ρ 0, 0, none⟩, rfl, CellsAt.blk (hpub 0 _ rfl)⟩
  have n52 := ne_ he hb
  clear hb
  have h0 : 53 ≤ x := by omega
  clear n52
  conv => cbv
  refine br_of (fun hb => ?_) (fun hb => ?_)
  · have hx := same_ he hb
    subst hx
    conv => cbv
    intro ρ R'' hle hpub _
    exact ⟨⟨ρ 0, 0, none⟩, rfl, CellsAt.blk (hpub 0 _ rfl)⟩
  have n53 := ne_ he hb
  clear hb
  have h0 : 54 ≤ x := by omega
  clear n53
  conv => cbv
  refine br_of (fun hb => ?_) (fun hb => ?_)
  · have hx := same_ he hb
    subst hx
    conv => cbv
    intro ρ R'' hle hpub _
    exact ⟨⟨ρ 0, 0, none⟩, rfl, CellsAt.blk (hpub 0 _ rfl)⟩
  have n54 := ne_ he hb
  clear hb
  have h0 : 55 ≤ x := by omega
  clear n54
  conv => cbv
  refine br_of (fun hb => ?_) (fun hb => ?_)
  · have hx := same_ he hb
    subst hx
    conv => cbv
    intro ρ R'' hle hpub _
    exact ⟨⟨ρ 0, 0, none⟩, rfl, CellsAt.blk (hpub 0 _ rfl)⟩
  have n55 := ne_ he hb
  clear hb
  have h0 : 56 ≤ x := by omega
  clear n55
  conv => cbv
  refine br_of (fun hb => ?_) (fun hb => ?_)
  · have hx := same_ he hb
    subst hx
    conv => cbv
    intro ρ R'' hle hpub _
    exact ⟨⟨ρ 0, 0, none⟩, rfl, CellsAt.blk (hpub 0 _ rfl)⟩
  have n56 := ne_ he hb
  clear hb
  have h0 : 57 ≤ x := by omega
  clear n56
  conv => cbv
  refine br_of (fun hb => ?_) (fun hb => ?_)
  · have hx := same_ he hb
    subst hx
    conv => cbv
    intro ρ R'' hle hpub _
    exact ⟨⟨ρ 0, 0, none⟩, rfl, CellsAt.blk (hpub 0 _ rfl)⟩
  have n57 := ne_ he hb
  clear hb
  have h0 : 58 ≤ x := by omega
  clear n57
  conv => cbv
  refine br_of (fun hb => ?_) (fun hb => ?_)
  · have hx := same_ he hb
    subst hx
    conv => cbv
    intro ρ R'' hle hpub _
    exact ⟨⟨ρ 0, 0, none⟩, rfl, CellsAt.blk (hpub 0 _ rfl)⟩
  have n58 := ne_ he hb
  clear hb
  have h0 : 59 ≤ x := by omega
  clear n58
  conv => cbv
  refine br_of (fun hb => ?_) (fun hb => ?_)
  · have hx := same_ he hb
    subst hx
    conv => cbv
    intro ρ R'' hle hpub _
    exact ⟨⟨ρ 0, 0, none⟩, rfl, CellsAt.blk (hpub 0 _ rfl)⟩
  have n59 := ne_ he hb
  clear hb
  have h0 : 60 ≤ x := by omega
  clear n59
  conv => cbv
  refine br_of (fun hb => ?_) (fun hb => ?_)
  · have hx := same_ he hb
    subst hx
    conv => cbv
    intro ρ R'' hle hpub _
    exact ⟨⟨ρ 0, 0, none⟩, rfl, CellsAt.blk (hpub 0 _ rfl)⟩
  have n60 := ne_ he hb
  clear hb
  have h0 : 61 ≤ x := by omega
  clear n60
  conv => cbv
  refine br_of (fun hb => ?_) (fun hb => ?_)
  · have hx := same_ he hb
    subst hx
    conv => cbv
    intro ρ R'' hle hpub _
    exact ⟨⟨ρ 0, 0, none⟩, rfl, CellsAt.blk (hpub 0 _ rfl)⟩
  have n61 := ne_ he hb
  clear hb
  have h0 : 62 ≤ x := by omega
  clear n61
  conv => cbv
  refine br_of (fun hb => ?_) (fun hb => ?_)
  · have hx := same_ he hb
    subst hx
    conv => cbv
    intro ρ R'' hle hpub _
    exact ⟨⟨ρ 0, 0, none⟩, rfl, CellsAt.blk (hpub 0 _ rfl)⟩
  have n62 := ne_ he hb
  clear hb
  have h0 : 63 ≤ x := by omega
  clear n62
  conv => cbv
  refine br_of (fun hb => ?_) (fun hb => ?_)
  · have hx := same_ he hb
    subst hx
    conv => cbv
    intro ρ R'' hle hpub _
    exact ⟨⟨ρ 0, 0, none⟩, rfl, CellsAt.blk (hpub 0 _ rfl)⟩
  have n63 := ne_ he hb
  clear hb
  have h0 : 64 ≤ x := by omega
  clear n63
  conv => cbv
  refine br_of (fun hb => ?_) (fun hb => ?_)
  · have hx := same_ he hb
    subst hx
    conv => cbv
    intro ρ R'' hle hpub _
    exact ⟨⟨ρ 0, 0, none⟩, rfl, CellsAt.blk (hpub 0 _ rfl)⟩
  have n64 := ne_ he hb
  clear hb
  have h0 : 65 ≤ x := by omega
  clear n64
  conv => cbv
  refine br_of (fun hb => ?_) (fun hb => ?_)
  · have hx := same_ he hb
    subst hx
    conv => cbv
    intro ρ R'' hle hpub _
    exact ⟨⟨ρ 0, 0, none⟩, rfl, CellsAt.blk (hpub 0 _ rfl)⟩
  have n65 := ne_ he hb
  clear hb
  have h0 : 66 ≤ x := by omega
  clear n65
  conv => cbv
  refine br_of (fun hb => ?_) (fun hb => ?_)
  · have hx := same_ he hb
    subst hx
    conv => cbv
    intro ρ R'' hle hpub _
    exact ⟨⟨ρ 0, 0, none⟩, rfl, CellsAt.blk (hpub 0 _ rfl)⟩
  have n66 := ne_ he hb
  clear hb
  have h0 : 67 ≤ x := by omega
  clear n66
  conv => cbv
  refine br_of (fun hb => ?_) (fun hb => ?_)
  · have hx := same_ he hb
    subst hx
    conv => cbv
    intro ρ R'' hle hpub _
    exact ⟨⟨ρ 0, 0, none⟩, rfl, CellsAt.blk (hpub 0 _ rfl)⟩
  have n67 := ne_ he hb
  clear hb
  have h0 : 68 ≤ x := by omega
  clear n67
  conv => cbv
  refine br_of (fun hb => ?_) (fun hb => ?_)
  · have hx := same_ he hb
    subst hx
    conv => cbv
    intro ρ R'' hle hpub _
    exact ⟨⟨ρ 0, 0, none⟩, rfl, CellsAt.blk (hpub 0 _ rfl)⟩
  have n68 := ne_ he hb
  clear hb
  have h0 : 69 ≤ x := by omega
  clear n68
  conv => cbv
  refine br_of (fun hb => ?_) (fun hb => ?_)
  · have hx := same_ he hb
    subst hx
    conv => cbv
    intro ρ R'' hle hpub _
    exact ⟨⟨ρ 0, 0, none⟩, rfl, CellsAt.blk (hpub 0 _ rfl)⟩
  have n69 := ne_ he hb
  clear hb
  have h0 : 70 ≤ x := by omega
  clear n69
  conv => cbv
  refine br_of (fun hb => ?_) (fun hb => ?_)
  · have hx := same_ he hb
    subst hx
    conv => cbv
    intro ρ R'' hle hpub _
    exact ⟨⟨ρ 0, 0, none⟩, rfl, CellsAt.blk (hpub 0 _ rfl)⟩
  have n70 := ne_ he hb
  clear hb
  have h0 : 71 ≤ x := by omega
  clear n70
  conv => cbv
  refine br_of (fun hb => ?_) (fun hb => ?_)
  · have hx := same_ he hb
    subst hx
    conv => cbv
    intro ρ R'' hle hpub _
    exact ⟨⟨ρ 0, 0, none⟩, rfl, CellsAt.blk (hpub 0 _ rfl)⟩
  have n71 := ne_ he hb
  clear hb
  have h0 : 72 ≤ x := by omega
  clear n71
  conv => cbv
  refine br_of (fun hb => ?_) (fun hb => ?_)
  · have hx := same_ he hb
    subst hx
    conv => cbv
    intro ρ R'' hle hpub _
    exact ⟨⟨ρ 0, 0, none⟩, rfl, CellsAt.blk (hpub 0 _ rfl)⟩
  have n72 := ne_ he hb
  clear hb
  have h0 : 73 ≤ x := by omega
  clear n72
  conv => cbv
  refine br_of (fun hb => ?_) (fun hb => ?_)
  · have hx := same_ he hb
    subst hx
    conv => cbv
    intro ρ R'' hle hpub _
    exact ⟨⟨ρ 0, 0, none⟩, rfl, CellsAt.blk (hpub 0 _ rfl)⟩
  have n73 := ne_ he hb
  clear hb
  have h0 : 74 ≤ x := by omega
  clear n73
  conv => cbv
  refine br_of (fun hb => ?_) (fun hb => ?_)
  · have hx := same_ he hb
    subst hx
    conv => cbv
    intro ρ R'' hle hpub _
    exact ⟨⟨ρ 0, 0, none⟩, rfl, CellsAt.blk (hpub 0 _ rfl)⟩
  have n74 := ne_ he hb
  clear hb
  have h0 : 75 ≤ x := by omega
  clear n74
  conv => cbv
  refine br_of (fun hb => ?_) (fun hb => ?_)
  · have hx := same_ he hb
    subst hx
    conv => cbv
    intro ρ R'' hle hpub _
    exact ⟨⟨ρ 0, 0, none⟩, rfl, CellsAt.blk (hpub 0 _ rfl)⟩
  have n75 := ne_ he hb
  clear hb
  have h0 : 76 ≤ x := by omega
  clear n75
  conv => cbv
  refine br_of (fun hb => ?_) (fun hb => ?_)
  · have hx := same_ he hb
    subst hx
    conv => cbv
    intro ρ R'' hle hpub _
    exact ⟨⟨ρ 0, 0, none⟩, rfl, CellsAt.blk (hpub 0 _ rfl)⟩
  have n76 := ne_ he hb
  clear hb
  have h0 : 77 ≤ x := by omega
  clear n76
  conv => cbv
  refine br_of (fun hb => ?_) (fun hb => ?_)
  · have hx := same_ he hb
    subst hx
    conv => cbv
    intro ρ R'' hle hpub _
    exact ⟨⟨ρ 0, 0, none⟩, rfl, CellsAt.blk (hpub 0 _ rfl)⟩
  have n77 := ne_ he hb
  clear hb
  have h0 : 78 ≤ x := by omega
  clear n77
  conv => cbv
  refine br_of (fun hb => ?_) (fun hb => ?_)
  · have hx := same_ he hb
    subst hx
    conv => cbv
    intro ρ R'' hle hpub _
    exact ⟨⟨ρ 0, 0, none⟩, rfl, CellsAt.blk (hpub 0 _ rfl)⟩
  have n78 := ne_ he hb
  clear hb
  have h0 : 79 ≤ x := by omega
  clear n78
  conv => cbv
  refine br_of (fun hb => ?_) (fun hb => ?_)
  · have hx := same_ he hb
    subst hx
    conv => cbv
    intro ρ R'' hle hpub _
    exact ⟨⟨ρ 0, 0, none⟩, rfl, CellsAt.blk (hpub 0 _ rfl)⟩
  have n79 := ne_ he hb
  clear hb
  have h0 : 80 ≤ x := by omega
  clear n79
  conv => cbv
  refine br_of (fun hb => ?_) (fun hb => ?_)
  · have hx := same_ he hb
    subst hx
    conv => cbv
    intro ρ R'' hle hpub _
    exact ⟨⟨ρ 0, 0, none⟩, rfl, CellsAt.blk (hpub 0 _ rfl)⟩
  have n80 := ne_ he hb
  clear hb
  have h0 : 81 ≤ x := by omega
  clear n80
  conv => cbv
  refine br_of (fun hb => ?_) (fun hb => ?_)
  · have hx := same_ he hb
    subst hx
    conv => cbv
    intro ρ R'' hle hpub _
    exact ⟨⟨ρ 0, 0, none⟩, rfl, CellsAt.blk (hpub 0 _ rfl)⟩
  have n81 := ne_ he hb
  clear hb
  have h0 : 82 ≤ x := by omega
  clear n81
  conv => cbv
  refine br_of (fun hb => ?_) (fun hb => ?_)
  · have hx := same_ he hb
    subst hx
    conv => cbv
    intro ρ R'' hle hpub _
    exact ⟨⟨ρ 0, 0, none⟩, rfl, CellsAt.blk (hpub 0 _ rfl)⟩
  have n82 := ne_ he hb
  clear hb
  have h0 : 83 ≤ x := by omega
  clear n82
  conv => cbv
  refine br_of (fun hb => ?_) (fun hb => ?_)
  · have hx := same_ he hb
    subst hx
    conv => cbv
    intro ρ R'' hle hpub _
    exact ⟨⟨ρ 0, 0, none⟩, rfl, CellsAt.blk (hpub 0 _ rfl)⟩
  have n83 := ne_ he hb
  clear hb
  have h0 : 84 ≤ x := by omega
  clear n83
  conv => cbv
  refine br_of (fun hb => ?_) (fun hb => ?_)
  · have hx := same_ he hb
    subst hx
    conv => cbv
    intro ρ R'' hle hpub _
    exact ⟨⟨ρ 0, 0, none⟩, rfl, CellsAt.blk (hpub 0 _ rfl)⟩
  have n84 := ne_ he hb
  clear hb
  have h0 : 85 ≤ x := by omega
  clear n84
  conv => cbv
  refine br_of (fun hb => ?_) (fun hb => ?_)
  · have hx := same_ he hb
    subst hx
    conv => cbv
    intro ρ R'' hle hpub _
    exact ⟨⟨ρ 0, 0, none⟩, rfl, CellsAt.blk (hpub 0 _ rfl)⟩
  have n85 := ne_ he hb
  clear hb
  have h0 : 86 ≤ x := by omega
  clear n85
  conv => cbv
  refine br_of (fun hb => ?_) (fun hb => ?_)
  · have hx := same_ he hb
    subst hx
    conv => cbv
    intro ρ R'' hle hpub _
    exact ⟨⟨ρ 0, 0, none⟩, rfl, CellsAt.blk (hpub 0 _ rfl)⟩
  have n86 := ne_ he hb
  clear hb
  have h0 : 87 ≤ x := by omega
  clear n86
  conv => cbv
  refine br_of (fun hb => ?_) (fun hb => ?_)
  · have hx := same_ he hb
    subst hx
    conv => cbv
    intro ρ R'' hle hpub _
    exact ⟨⟨ρ 0, 0, none⟩, rfl, CellsAt.blk (hpub 0 _ rfl)⟩
  have n87 := ne_ he hb
  clear hb
  have h0 : 88 ≤ x := by omega
  clear n87
  conv => cbv
  refine br_of (fun hb => ?_) (fun hb => ?_)
  · have hx := same_ he hb
    subst hx
    conv => cbv
    intro ρ R'' hle hpub _
    exact ⟨⟨ρ 0, 0, none⟩, rfl, CellsAt.blk (hpub 0 _ rfl)⟩
  have n88 := ne_ he hb
  clear hb
  have h0 : 89 ≤ x := by omega
  clear n88
  conv => cbv
  refine br_of (fun hb => ?_) (fun hb => ?_)
  · have hx := same_ he hb
    subst hx
    conv => cbv
    intro ρ R'' hle hpub _
    exact ⟨⟨ρ 0, 0, none⟩, rfl, CellsAt.blk (hpub 0 _ rfl)⟩
  have n89 := ne_ he hb
  clear hb
  have h0 : 90 ≤ x := by omega
  clear n89
  conv => cbv
  refine br_of (fun hb => ?_) (fun hb => ?_)
  · have hx := same_ he hb
    subst hx
    conv => cbv
    intro ρ R'' hle hpub _
    exact ⟨⟨ρ 0, 0, none⟩, rfl, CellsAt.blk (hpub 0 _ rfl)⟩
  have n90 := ne_ he hb
  clear hb
  have h0 : 91 ≤ x := by omega
  clear n90
  conv => cbv
  refine br_of (fun hb => ?_) (fun hb => ?_)
  · have hx := same_ he hb
    subst hx
    conv => cbv
    intro ρ R'' hle hpub _
    exact ⟨⟨ρ 0, 0, none⟩, rfl, CellsAt.blk (hpub 0 _ rfl)⟩
  have n91 := ne_ he hb
  clear hb
  have h0 : 92 ≤ x := by omega
  clear n91
  conv => cbv
  refine br_of (fun hb => ?_) (fun hb => ?_)
  · have hx := same_ he hb
    subst hx
    conv => cbv
    intro ρ R'' hle hpub _
    exact ⟨⟨ρ 0, 0, none⟩, rfl, CellsAt.blk (hpub 0 _ rfl)⟩
  have n92 := ne_ he hb
  clear hb
  have h0 : 93 ≤ x := by omega
  clear n92
  conv => cbv
  refine br_of (fun hb => ?_) (fun hb => ?_)
  · have hx := same_ he hb
    subst hx
    conv => cbv
    intro ρ R'' hle hpub _
    exact ⟨⟨ρ 0, 0, none⟩, rfl, CellsAt.blk (hpub 0 _ rfl)⟩
  have n93 := ne_ he hb
  clear hb
  have h0 : 94 ≤ x := by omega
  clear n93
  conv => cbv
  refine br_of (fun hb => ?_) (fun hb => ?_)
  · have hx := same_ he hb
    subst hx
    conv => cbv
    intro ρ R'' hle hpub _
    exact ⟨⟨ρ 0, 0, none⟩, rfl, CellsAt.blk (hpub 0 _ rfl)⟩
  have n94 := ne_ he hb
  clear hb
  have h0 : 95 ≤ x := by omega
  clear n94
  conv => cbv
  refine br_of (fun hb => ?_) (fun hb => ?_)
  · have hx := same_ he hb
    subst hx
    conv => cbv
    intro ρ R'' hle hpub _
    exact ⟨⟨ρ 0, 0, none⟩, rfl, CellsAt.blk (hpub 0 _ rfl)⟩
  have n95 := ne_ he hb
  clear hb
  have h0 : 96 ≤ x := by omega
  clear n95
  conv => cbv
  refine br_of (fun hb => ?_) (fun hb => ?_)
  · have hx := same_ he hb
    subst hx
    conv => cbv
    intro ρ R'' hle hpub _
    exact ⟨⟨ρ 0, 0, none⟩, rfl, CellsAt.blk (hpub 0 _ rfl)⟩
  have n96 := ne_ he hb
  clear hb
  have h0 : 97 ≤ x := by omega
  clear n96
  conv => cbv
  refine br_of (fun hb => ?_) (fun hb => ?_)
  · have hx := same_ he hb
    subst hx
    conv => cbv
    intro ρ R'' hle hpub _
    exact ⟨⟨ρ 0, 0, none⟩, rfl, CellsAt.blk (hpub 0 _ rfl)⟩
  have n97 := ne_ he hb
  clear hb
  have h0 : 98 ≤ x := by omega
  clear n97
  conv => cbv
  refine br_of (fun hb => ?_) (fun hb => ?_)
  · have hx := same_ he hb
    subst hx
    conv => cbv
    intro ρ R'' hle hpub _
    exact ⟨⟨ρ 0, 0, none⟩, rfl, CellsAt.blk (hpub 0 _ rfl)⟩
  have n98 := ne_ he hb
  clear hb
  have h0 : 99 ≤ x := by omega
  clear n98
  conv => cbv
  refine br_of (fun hb => ?_) (fun hb => ?_)
  · have hx := same_ he hb
    subst hx
    conv => cbv
    intro ρ R'' hle hpub _
    exact ⟨⟨ρ 0, 0, none⟩, rfl, CellsAt.blk (hpub 0 _ rfl)⟩
  have n99 := ne_ he hb
  clear hb
  have h0 : 100 ≤ x := by omega
  clear n99
  conv => cbv
  refine br_of (fun hb => ?_) (fun hb => ?_)
  · have hx := same_ he hb
    subst hx
    conv => cbv
    intro ρ R'' hle hpub _
    exact ⟨⟨ρ 0, 0, none⟩, rfl, CellsAt.blk (hpub 0 _ rfl)⟩
  have n100 := ne_ he hb
  clear hb
  have h0 : 101 ≤ x := by omega
  clear n100
  conv => cbv
  refine br_of (fun hb => ?_) (fun hb => ?_)
  · have hx := same_ he hb
    subst hx
    conv => cbv
    intro ρ R'' hle hpub _
    exact ⟨⟨ρ 0, 0, none⟩, rfl, CellsAt.blk (hpub 0 _ rfl)⟩
  have n101 := ne_ he hb
  clear hb
  have h0 : 102 ≤ x := by omega
  clear n101
  conv => cbv
  refine br_of (fun hb => ?_) (fun hb => ?_)
  · have hx := same_ he hb
    subst hx
    conv => cbv
    intro ρ R'' hle hpub _
    exact ⟨⟨ρ 0, 0, none⟩, rfl, CellsAt.blk (hpub 0 _ rfl)⟩
  have n102 := ne_ he hb
  clear hb
  have h0 : 103 ≤ x := by omega
  clear n102
  conv => cbv
  refine br_of (fun hb => ?_) (fun hb => ?_)
  · have hx := same_ he hb
    subst hx
    conv => cbv
    intro ρ R'' hle hpub _
    exact ⟨⟨ρ 0, 0, none⟩, rfl, CellsAt.blk (hpub 0 _ rfl)⟩
  have n103 := ne_ he hb
  clear hb
  have h0 : 104 ≤ x := by omega
  clear n103
  conv => cbv
  refine br_of (fun hb => ?_) (fun hb => ?_)
  · have hx := same_ he hb
    subst hx
    conv => cbv
    intro ρ R'' hle hpub _
    exact ⟨⟨ρ 0, 0, none⟩, rfl, CellsAt.blk (hpub 0 _ rfl)⟩
  have n104 := ne_ he hb
  clear hb
  have h0 : 105 ≤ x := by omega
  clear n104
  conv => cbv
  refine br_of (fun hb => ?_) (fun hb => ?_)
  · have hx := same_ he hb
    subst hx
    conv => cbv
    intro ρ R'' hle hpub _
    exact ⟨⟨ρ 0, 0, none⟩, rfl, CellsAt.blk (hpub 0 _ rfl)⟩
  have n105 := ne_ he hb
  clear hb
  have h0 : 106 ≤ x := by omega
  clear n105
  conv => cbv
  refine br_of (fun hb => ?_) (fun hb => ?_)
  · have hx := same_ he hb
    subst hx
    conv => cbv
    intro ρ R'' hle hpub _
    exact ⟨⟨ρ 0, 0, none⟩, rfl, CellsAt.blk (hpub 0 _ rfl)⟩
  have n106 := ne_ he hb
  clear hb
  have h0 : 107 ≤ x := by omega
  clear n106
  conv => cbv
  refine br_of (fun hb => ?_) (fun hb => ?_)
  · have hx := same_ he hb
    subst hx
    conv => cbv
    intro ρ R'' hle hpub _
    exact ⟨⟨ρ 0, 0, none⟩, rfl, CellsAt.blk (hpub 0 _ rfl)⟩
  have n177 := ne_ he hb
  clear hb
  conv => cbv
  refine br_of (fun hb => ?_) (fun hb => ?_)
  · have hx := same_ he hb
    subst hx
    conv => cbv
    intro ρ R'' hle hpub _
    exact ⟨⟨ρ 0, 0, none⟩, rfl, CellsAt.blk (hpub 0 _ rfl)⟩
  have n178 := ne_ he hb
  clear hb
  conv => cbv
  refine br_of (fun hb => ?_) (fun hb => ?_)
  · have hx := same_ he hb
    subst hx
    conv => cbv
    intro ρ R'' hle hpub _
    exact ⟨⟨ρ 0, 0, none⟩, rfl, CellsAt.blk (hpub 0 _ rfl)⟩
  have n107 := ne_ he hb
  clear hb
  have h0 : 108 ≤ x := by omega
  clear n107
  conv => cbv
  refine br_of (fun hb => ?_) (fun hb => ?_)
  · have hx := same_ he hb
    subst hx
    conv => cbv
    intro ρ R'' hle hpub _
    exact ⟨⟨ρ 0, 0, none⟩, rfl, CellsAt.blk (hpub 0 _ rfl)⟩
  have n108 := ne_ he hb
  clear hb
  have h0 : 109 ≤ x := by omega
  clear n108
  conv => cbv
  refine br_of (fun hb => ?_) (fun hb => ?_)
  · have hx := same_ he hb
    subst hx
    conv => cbv
    intro ρ R'' hle hpub _
    exact ⟨⟨ρ 0, 0, none⟩, rfl, CellsAt.blk (hpub 0 _ rfl)⟩
  have n109 := ne_ he hb
  clear hb
  have h0 : 110 ≤ x := by omega
  clear n109
  conv => cbv
  refine br_of (fun hb => ?_) (fun hb => ?_)
  · have hx := same_ he hb
    subst hx
    conv => cbv
    intro ρ R'' hle hpub _
    exact ⟨⟨ρ 0, 0, none⟩, rfl, CellsAt.blk (hpub 0 _ rfl)⟩
  have n110 := ne_ he hb
  clear hb
  have h0 : 111 ≤ x := by omega
  clear n110
  conv => cbv
  refine br_of (fun hb => ?_) (fun hb => ?_)
  · have hx := same_ he hb
    subst hx
    conv => cbv
    intro ρ R'' hle hpub _
    exact ⟨⟨ρ 0, 0, none⟩, rfl, CellsAt.blk (hpub 0 _ rfl)⟩
  have n111 := ne_ he hb
  clear hb
  have h0 : 112 ≤ x := by omega
  clear n111
  conv => cbv
  refine br_of (fun hb => ?_) (fun hb => ?_)
  · have hx := same_ he hb
    subst hx
    conv => cbv
    intro ρ R'' hle hpub _
    exact ⟨⟨ρ 0, 0, none⟩, rfl, CellsAt.blk (hpub 0 _ rfl)⟩
  have n112 := ne_ he hb
  clear hb
  have h0 : 113 ≤ x := by omega
  clear n112
  conv => cbv
  refine br_of (fun hb => ?_) (fun hb => ?_)
  · have hx := same_ he hb
    subst hx
    conv => cbv
    intro ρ R'' hle hpub _
    exact ⟨⟨ρ 0, 0, none⟩, rfl, CellsAt.blk (hpub 0 _ rfl)⟩
  have n113 := ne_ he hb
  clear hb
  have h0 : 114 ≤ x := by omega
  clear n113
  conv => cbv
  refine br_of (fun hb => ?_) (fun hb => ?_)
  · have hx := same_ he hb
    subst hx
    conv => cbv
    intro ρ R'' hle hpub _
    exact ⟨⟨ρ 0, 0, none⟩, rfl, CellsAt.blk (hpub 0 _ rfl)⟩
  have n114 := ne_ he hb
  clear hb
  have h0 : 115 ≤ x := by omega
  clear n114
  conv => cbv
  refine br_of (fun hb => ?_) (fun hb => ?_)
  · have hx := same_ he hb
    subst hx
    conv => cbv
    intro ρ R'' hle hpub _
    exact ⟨⟨ρ 0, 0, none⟩, rfl, CellsAt.blk (hpub 0 _ rfl)⟩
  have n115 := ne_ he hb
  clear hb
  have h0 : 116 ≤ x := by omega
  clear n115
  conv => cbv
  refine br_of (fun hb => ?_) (fun hb => ?_)
  · have hx := same_ he hb
    subst hx
    conv => cbv
    intro ρ R'' hle hpub _
    exact ⟨⟨ρ 0, 0, none⟩, rfl, CellsAt.blk (hpub 0 _ rfl)⟩
  have n116 := ne_ he hb
  clear hb
  have h0 : 117 ≤ x := by omega
  clear n116
  conv => cbv
  refine br_of (fun hb => ?_) (fun hb => ?_)
  · have hx := same_ he hb
    subst hx
    conv => cbv
    intro ρ R'' hle hpub _
    exact ⟨⟨ρ 0, 0, none⟩, rfl, CellsAt.blk (hpub 0 _ rfl)⟩
  have n117 := ne_ he hb
  clear hb
  have h0 : 118 ≤ x := by omega
  clear n117
  conv => cbv
  refine br_of (fun hb => ?_) (fun hb => ?_)
  · have hx := same_ he hb
    subst hx
    conv => cbv
    intro ρ R'' hle hpub _
    exact ⟨⟨ρ 0, 0, none⟩, rfl, CellsAt.blk (hpub 0 _ rfl)⟩
  have n118 := ne_ he hb
  clear hb
  have h0 : 119 ≤ x := by omega
  clear n118
  conv => cbv
  refine br_of (fun hb => ?_) (fun hb => ?_)
  · have hx := same_ he hb
    subst hx
    conv => cbv
    intro ρ R'' hle hpub _
    exact ⟨⟨ρ 0, 0, none⟩, rfl, CellsAt.blk (hpub 0 _ rfl)⟩
  have n119 := ne_ he hb
  clear hb
  have h0 : 120 ≤ x := by omega
  clear n119
  conv => cbv
  refine br_of (fun hb => ?_) (fun hb => ?_)
  · have hx := same_ he hb
    subst hx
    conv => cbv
    intro ρ R'' hle hpub _
    exact ⟨⟨ρ 0, 0, none⟩, rfl, CellsAt.blk (hpub 0 _ rfl)⟩
  have n120 := ne_ he hb
  clear hb
  have h0 : 121 ≤ x := by omega
  clear n120
  conv => cbv
  refine br_of (fun hb => ?_) (fun hb => ?_)
  · have hx := same_ he hb
    subst hx
    conv => cbv
    intro ρ R'' hle hpub _
    exact ⟨⟨ρ 0, 0, none⟩, rfl, CellsAt.blk (hpub 0 _ rfl)⟩
  have n121 := ne_ he hb
  clear hb
  have h0 : 122 ≤ x := by omega
  clear n121
  conv => cbv
  refine br_of (fun hb => ?_) (fun hb => ?_)
  · have hx := same_ he hb
    subst hx
    conv => cbv
    intro ρ R'' hle hpub _
    exact ⟨⟨ρ 0, 0, none⟩, rfl, CellsAt.blk (hpub 0 _ rfl)⟩
  have n122 := ne_ he hb
  clear hb
  have h0 : 123 ≤ x := by omega
  clear n122
  conv => cbv
  refine br_of (fun hb => ?_) (fun hb => ?_)
  · have hx := same_ he hb
    subst hx
    conv => cbv
    intro ρ R'' hle hpub _
    exact ⟨⟨ρ 0, 0, none⟩, rfl, CellsAt.blk (hpub 0 _ rfl)⟩
  have n123 := ne_ he hb
  clear hb
  have h0 : 124 ≤ x := by omega
  clear n123
  conv => cbv
  refine br_of (fun hb => ?_) (fun hb => ?_)
  · have hx := same_ he hb
    subst hx
    conv => cbv
    intro ρ R'' hle hpub _
    exact ⟨⟨ρ 0, 0, none⟩, rfl, CellsAt.blk (hpub 0 _ rfl)⟩
  have n124 := ne_ he hb
  clear hb
  have h0 : 125 ≤ x := by omega
  clear n124
  conv => cbv
  refine br_of (fun hb => ?_) (fun hb => ?_)
  · have hx := same_ he hb
    subst hx
    conv => cbv
    intro ρ R'' hle hpub _
    exact ⟨⟨ρ 0, 0, none⟩, rfl, CellsAt.blk (hpub 0 _ rfl)⟩
  have n125 := ne_ he hb
  clear hb
  have h0 : 126 ≤ x := by omega
  clear n125
  conv => cbv
  refine br_of (fun hb => ?_) (fun hb => ?_)
  · have hx := same_ he hb
    subst hx
    conv => cbv
    intro ρ R'' hle hpub _
    exact ⟨⟨ρ 0, 0, none⟩, rfl, CellsAt.blk (hpub 0 _ rfl)⟩
  have n126 := ne_ he hb
  clear hb
  have h0 : 127 ≤ x := by omega
  clear n126
  conv => cbv
  refine br_of (fun hb => ?_) (fun hb => ?_)
  · have hx := same_ he hb
    subst hx
    conv => cbv
    intro ρ R'' hle hpub _
    exact ⟨⟨ρ 0, 0, none⟩, rfl, CellsAt.blk (hpub 0 _ rfl)⟩
  have n127 := ne_ he hb
  clear hb
  have h0 : 128 ≤ x := by omega
  clear n127
  conv => cbv
  refine br_of (fun hb => ?_) (fun hb => ?_)
  · have hx := same_ he hb
    subst hx
    conv => cbv
    intro ρ R'' hle hpub _
    exact ⟨⟨ρ 0, 0, none⟩, rfl, CellsAt.blk (hpub 0 _ rfl)⟩
  have n128 := ne_ he hb
  clear hb
  have h0 : 129 ≤ x := by omega
  clear n128
  conv => cbv
  refine br_of (fun hb => ?_) (fun hb => ?_)
  · have hx := same_ he hb
    subst hx
    conv => cbv
    intro ρ R'' hle hpub _
    exact ⟨⟨ρ 0, 0, none⟩, rfl, CellsAt.blk (hpub 0 _ rfl)⟩
  have n129 := ne_ he hb
  clear hb
  have h0 : 130 ≤ x := by omega
  clear n129
  conv => cbv
  refine br_of (fun hb => ?_) (fun hb => ?_)
  · have hx := same_ he hb
    subst hx
    conv => cbv
    intro ρ R'' hle hpub _
    exact ⟨⟨ρ 0, 0, none⟩, rfl, CellsAt.blk (hpub 0 _ rfl)⟩
  have n130 := ne_ he hb
  clear hb
  have h0 : 131 ≤ x := by omega
  clear n130
  conv => cbv
  refine br_of (fun hb => ?_) (fun hb => ?_)
  · have hx := same_ he hb
    subst hx
    conv => cbv
    intro ρ R'' hle hpub _
    exact ⟨⟨ρ 0, 0, none⟩, rfl, CellsAt.blk (hpub 0 _ rfl)⟩
  have n131 := ne_ he hb
  clear hb
  have h0 : 132 ≤ x := by omega
  clear n131
  conv => cbv
  refine br_of (fun hb => ?_) (fun hb => ?_)
  · have hx := same_ he hb
    subst hx
    conv => cbv
    intro ρ R'' hle hpub _
    exact ⟨⟨ρ 0, 0, none⟩, rfl, CellsAt.blk (hpub 0 _ rfl)⟩
  have n132 := ne_ he hb
  clear hb
  have h0 : 133 ≤ x := by omega
  clear n132
  conv => cbv
  refine br_of (fun hb => ?_) (fun hb => ?_)
  · have hx := same_ he hb
    subst hx
    conv => cbv
    intro ρ R'' hle hpub _
    exact ⟨⟨ρ 0, 0, none⟩, rfl, CellsAt.blk (hpub 0 _ rfl)⟩
  have n133 := ne_ he hb
  clear hb
  have h0 : 134 ≤ x := by omega
  clear n133
  conv => cbv
  refine br_of (fun hb => ?_) (fun hb => ?_)
  · have hx := same_ he hb
    subst hx
    conv => cbv
    intro ρ R'' hle hpub _
    exact ⟨⟨ρ 0, 0, none⟩, rfl, CellsAt.blk (hpub 0 _ rfl)⟩
  have n134 := ne_ he hb
  clear hb
  have h0 : 135 ≤ x := by omega
  clear n134
  conv => cbv
  refine br_of (fun hb => ?_) (fun hb => ?_)
  · have hx := same_ he hb
    subst hx
    conv => cbv
    intro ρ R'' hle hpub _
    exact ⟨⟨ρ 0, 0, none⟩, rfl, CellsAt.blk (hpub 0 _ rfl)⟩
  have n135 := ne_ he hb
  clear hb
  have h0 : 136 ≤ x := by omega
  clear n135
  conv => cbv
  refine br_of (fun hb => ?_) (fun hb => ?_)
  · have hx := same_ he hb
    subst hx
    conv => cbv
    intro ρ R'' hle hpub _
    exact ⟨⟨ρ 0, 0, none⟩, rfl, CellsAt.blk (hpub 0 _ rfl)⟩
  have n136 := ne_ he hb
  clear hb
  have h0 : 137 ≤ x := by omega
  clear n136
  conv => cbv
  refine br_of (fun hb => ?_) (fun hb => ?_)
  · have hx := same_ he hb
    subst hx
    conv => cbv
    intro ρ R'' hle hpub _
    exact ⟨⟨ρ 0, 0, none⟩, rfl, CellsAt.blk (hpub 0 _ rfl)⟩
  have n137 := ne_ he hb
  clear hb
  have h0 : 138 ≤ x := by omega
  clear n137
  conv => cbv
  refine br_of (fun hb => ?_) (fun hb => ?_)
  · have hx := same_ he hb
    subst hx
    conv => cbv
    intro ρ R'' hle hpub _
    exact ⟨⟨ρ 0, 0, none⟩, rfl, CellsAt.blk (hpub 0 _ rfl)⟩
  have n138 := ne_ he hb
  clear hb
  have h0 : 139 ≤ x := by omega
  clear n138
  conv => cbv
  refine br_of (fun hb => ?_) (fun hb => ?_)
  · have hx := same_ he hb
    subst hx
    conv => cbv
    intro ρ R'' hle hpub _
    exact ⟨⟨ρ 0, 0, none⟩, rfl, CellsAt.blk (hpub 0 _ rfl)⟩
  have n139 := ne_ he hb
  clear hb
  have h0 : 140 ≤ x := by omega
  clear n139
  conv => cbv
  refine br_of (fun hb => ?_) (fun hb => ?_)
  · have hx := same_ he hb
    subst hx
    conv => cbv
    intro ρ R'' hle hpub _
    exact ⟨⟨ρ 0, 0, none⟩, rfl, CellsAt.blk (hpub 0 _ rfl)⟩
  have n140 := ne_ he hb
  clear hb
  have h0 : 141 ≤ x := by omega
  clear n140
  conv => cbv
  refine br_of (fun hb => ?_) (fun hb => ?_)
  · have hx := same_ he hb
    subst hx
    conv => cbv
    intro ρ R'' hle hpub _
    exact ⟨⟨ρ 0, 0, none⟩, rfl, CellsAt.blk (hpub 0 _ rfl)⟩
  have n141 := ne_ he hb
  clear hb
  have h0 : 142 ≤ x := by omega
  clear n141
  conv => cbv
  refine br_of (fun hb => ?_) (fun hb => ?_)
  · have hx := same_ he hb
    subst hx
    conv => cbv
    intro ρ R'' hle hpub _
    exact ⟨⟨ρ 0, 0, none⟩, rfl, CellsAt.blk (hpub 0 _ rfl)⟩
  have n142 := ne_ he hb
  clear hb
  have h0 : 143 ≤ x := by omega
  clear n142
  conv => cbv
  refine br_of (fun hb => ?_) (fun hb => ?_)
  · have hx := same_ he hb
    subst hx
    conv => cbv
    intro ρ R'' hle hpub _
    exact ⟨⟨ρ 0, 0, none⟩, rfl, CellsAt.blk (hpub 0 _ rfl)⟩
  have n143 := ne_ he hb
  clear hb
  have h0 : 144 ≤ x := by omega
  clear n143
  conv => cbv
  refine br_of (fun hb => ?_) (fun hb => ?_)
  · have hx := same_ he hb
    subst hx
    conv => cbv
    intro ρ R'' hle hpub _
    exact ⟨⟨ρ 0, 0, none⟩, rfl, CellsAt.blk (hpub 0 _ rfl)⟩
  have n144 := ne_ he hb
  clear hb
  have h0 : 145 ≤ x := by omega
  clear n144
  conv => cbv
  refine br_of (fun hb => ?_) (fun hb => ?_)
  · have hx := same_ he hb
    subst hx
    conv => cbv
    intro ρ R'' hle hpub _
    exact ⟨⟨ρ 0, 0, none⟩, rfl, CellsAt.blk (hpub 0 _ rfl)⟩
  have n145 := ne_ he hb
  clear hb
  have h0 : 146 ≤ x := by omega
  clear n145
  conv => cbv
  refine br_of (fun hb => ?_) (fun hb => ?_)
  · have hx := same_ he hb
    subst hx
    conv => cbv
    intro ρ R'' hle hpub _
    exact ⟨⟨ρ 0, 0, none⟩, rfl, CellsAt.blk (hpub 0 _ rfl)⟩
  have n146 := ne_ he hb
  clear hb
  have h0 : 147 ≤ x := by omega
  clear n146
  conv => cbv
  refine br_of (fun hb => ?_) (fun hb => ?_)
  · have hx := same_ he hb
    subst hx
    conv => cbv
    intro ρ R'' hle hpub _
    exact ⟨⟨ρ 0, 0, none⟩, rfl, CellsAt.blk (hpub 0 _ rfl)⟩
  have n147 := ne_ he hb
  clear hb
  have h0 : 148 ≤ x := by omega
  clear n147
  conv => cbv
  refine br_of (fun hb => ?_) (fun hb => ?_)
  · have hx := same_ he hb
    subst hx
    conv => cbv
    intro ρ R'' hle hpub _
    exact ⟨⟨ρ 0, 0, none⟩, rfl, CellsAt.blk (hpub 0 _ rfl)⟩
  have n148 := ne_ he hb
  clear hb
  have h0 : 149 ≤ x := by omega
  clear n148
  conv => cbv
  refine br_of (fun hb => ?_) (fun hb => ?_)
  · have hx := same_ he hb
    subst hx
    conv => cbv
    intro ρ R'' hle hpub _
    exact ⟨⟨ρ 0, 0, none⟩, rfl, CellsAt.blk (hpub 0 _ rfl)⟩
  have n149 := ne_ he hb
  clear hb
  have h0 : 150 ≤ x := by omega
  clear n149
  conv => cbv
  refine br_of (fun hb => ?_) (fun hb => ?_)
  · have hx := same_ he hb
    subst hx
    conv => cbv
    intro ρ R'' hle hpub _
    exact ⟨⟨ρ 0, 0, none⟩, rfl, CellsAt.blk (hpub 0 _ rfl)⟩
  have n150 := ne_ he hb
  clear hb
  have h0 : 151 ≤ x := by omega
  clear n150
  conv => cbv
  refine br_of (fun hb => ?_) (fun hb => ?_)
  · have hx := same_ he hb
    subst hx
    conv => cbv
    intro ρ R'' hle hpub _
    exact ⟨⟨ρ 0, 0, none⟩, rfl, CellsAt.blk (hpub 0 _ rfl)⟩
  have n151 := ne_ he hb
  clear hb
  have h0 : 152 ≤ x := by omega
  clear n151
  conv => cbv
  refine br_of (fun hb => ?_) (fun hb => ?_)
  · have hx := same_ he hb
    subst hx
    conv => cbv
    intro ρ R'' hle hpub _
    exact ⟨⟨ρ 0, 0, none⟩, rfl, CellsAt.blk (hpub 0 _ rfl)⟩
  have n152 := ne_ he hb
  clear hb
  have h0 : 153 ≤ x := by omega
  clear n152
  conv => cbv
  refine br_of (fun hb => ?_) (fun hb => ?_)
  · have hx := same_ he hb
    subst hx
    conv => cbv
    intro ρ R'' hle hpub _
    exact ⟨⟨ρ 0, 0, none⟩, rfl, CellsAt.blk (hpub 0 _ rfl)⟩
  have n153 := ne_ he hb
  clear hb
  have h0 : 154 ≤ x := by omega
  clear n153
  conv => cbv
  refine br_of (fun hb => ?_) (fun hb => ?_)
  · have hx := same_ he hb
    subst hx
    conv => cbv
    intro ρ R'' hle hpub _
    exact ⟨⟨ρ 0, 0, none⟩, rfl, CellsAt.blk (hpub 0 _ rfl)⟩
  have n154 := ne_ he hb
  clear hb
  have h0 : 155 ≤ x := by omega
  clear n154
  conv => cbv
  refine br_of (fun hb => ?_) (fun hb => ?_)
  · have hx := same_ he hb
    subst hx
    conv => cbv
    intro ρ R'' hle hpub _
    exact ⟨⟨ρ 0, 0, none⟩, rfl, CellsAt.blk (hpub 0 _ rfl)⟩
  have n155 := ne_ he hb
  clear hb
  have h0 : 156 ≤ x := by omega
  clear n155
  conv => cbv
  refine br_of (fun hb => ?_) (fun hb => ?_)
  · have hx := same_ he hb
    subst hx
    conv => cbv
    intro ρ R'' hle hpub _
    exact ⟨⟨ρ 0, 0, none⟩, rfl, CellsAt.blk (hpub 0 _ rfl)⟩
  have n156 := ne_ he hb
  clear hb
  have h0 : 157 ≤ x := by omega
  clear n156
  conv => cbv
  refine br_of (fun hb => ?_) (fun hb => ?_)
  · have hx := same_ he hb
    subst hx
    conv => cbv
    intro ρ R'' hle hpub _
    exact ⟨⟨ρ 0, 0, none⟩, rfl, CellsAt.blk (hpub 0 _ rfl)⟩
  have n157 := ne_ he hb
  clear hb
  have h0 : 158 ≤ x := by omega
  clear n157
  conv => cbv
  refine br_of (fun hb => ?_) (fun hb => ?_)
  · have hx := same_ he hb
    subst hx
    conv => cbv
    intro ρ R'' hle hpub _
    exact ⟨⟨ρ 0, 0, none⟩, rfl, CellsAt.blk (hpub 0 _ rfl)⟩
  have n158 := ne_ he hb
  clear hb
  have h0 : 159 ≤ x := by omega
  clear n158
  conv => cbv
  refine br_of (fun hb => ?_) (fun hb => ?_)
  · have hx := same_ he hb
    subst hx
    conv => cbv
    intro ρ R'' hle hpub _
    exact ⟨⟨ρ 0, 0, none⟩, rfl, CellsAt.blk (hpub 0 _ rfl)⟩
  have n159 := ne_ he hb
  clear hb
  have h0 : 160 ≤ x := by omega
  clear n159
  conv => cbv
  refine br_of (fun hb => ?_) (fun hb => ?_)
  · have hx := same_ he hb
    subst hx
    conv => cbv
    intro ρ R'' hle hpub _
    exact ⟨⟨ρ 0, 0, none⟩, rfl, CellsAt.blk (hpub 0 _ rfl)⟩
  have n160 := ne_ he hb
  clear hb
  have h0 : 161 ≤ x := by omega
  clear n160
  conv => cbv
  refine br_of (fun hb => ?_) (fun hb => ?_)
  · have hx := same_ he hb
    subst hx
    conv => cbv
    intro ρ R'' hle hpub _
    exact ⟨⟨ρ 0, 0, none⟩, rfl, CellsAt.blk (hpub 0 _ rfl)⟩
  have n161 := ne_ he hb
  clear hb
  have h0 : 162 ≤ x := by omega
  clear n161
  conv => cbv
  refine br_of (fun hb => ?_) (fun hb => ?_)
  · have hx := same_ he hb
    subst hx
    conv => cbv
    intro ρ R'' hle hpub _
    exact ⟨⟨ρ 0, 0, none⟩, rfl, CellsAt.blk (hpub 0 _ rfl)⟩
  have n162 := ne_ he hb
  clear hb
  have h0 : 163 ≤ x := by omega
  clear n162
  conv => cbv
  refine br_of (fun hb => ?_) (fun hb => ?_)
  · have hx := same_ he hb
    subst hx
    conv => cbv
    intro ρ R'' hle hpub _
    exact ⟨⟨ρ 0, 0, none⟩, rfl, CellsAt.blk (hpub 0 _ rfl)⟩
  have n163 := ne_ he hb
  clear hb
  have h0 : 164 ≤ x := by omega
  clear n163
  conv => cbv
  refine br_of (fun hb => ?_) (fun hb => ?_)
  · have hx := same_ he hb
    subst hx
    conv => cbv
    intro ρ R'' hle hpub _
    exact ⟨⟨ρ 0, 0, none⟩, rfl, CellsAt.blk (hpub 0 _ rfl)⟩
  have n164 := ne_ he hb
  clear hb
  have h0 : 165 ≤ x := by omega
  clear n164
  conv => cbv
  refine br_of (fun hb => ?_) (fun hb => ?_)
  · have hx := same_ he hb
    subst hx
    conv => cbv
    intro ρ R'' hle hpub _
    exact ⟨⟨ρ 0, 0, none⟩, rfl, CellsAt.blk (hpub 0 _ rfl)⟩
  have n165 := ne_ he hb
  clear hb
  have h0 : 166 ≤ x := by omega
  clear n165
  conv => cbv
  refine br_of (fun hb => ?_) (fun hb => ?_)
  · have hx := same_ he hb
    subst hx
    conv => cbv
    intro ρ R'' hle hpub _
    exact ⟨⟨ρ 0, 0, none⟩, rfl, CellsAt.blk (hpub 0 _ rfl)⟩
  have n166 := ne_ he hb
  clear hb
  have h0 : 167 ≤ x := by omega
  clear n166
  conv => cbv
  refine br_of (fun hb => ?_) (fun hb => ?_)
  · have hx := same_ he hb
    subst hx
    conv => cbv
    intro ρ R'' hle hpub _
    exact ⟨⟨ρ 0, 0, none⟩, rfl, CellsAt.blk (hpub 0 _ rfl)⟩
  have n167 := ne_ he hb
  clear hb
  have h0 : 168 ≤ x := by omega
  clear n167
  conv => cbv
  refine br_of (fun hb => ?_) (fun hb => ?_)
  · have hx := same_ he hb
    subst hx
    conv => cbv
    intro ρ R'' hle hpub _
    exact ⟨⟨ρ 0, 0, none⟩, rfl, CellsAt.blk (hpub 0 _ rfl)⟩
  have n168 := ne_ he hb
  clear hb
  have h0 : 169 ≤ x := by omega
  clear n168
  conv => cbv
  refine br_of (fun hb => ?_) (fun hb => ?_)
  · have hx := same_ he hb
    subst hx
    conv => cbv
    intro ρ R'' hle hpub _
    exact ⟨⟨ρ 0, 0, none⟩, rfl, CellsAt.blk (hpub 0 _ rfl)⟩
  have n169 := ne_ he hb
  clear hb
  have h0 : 170 ≤ x := by omega
  clear n169
  conv => cbv
  refine br_of (fun hb => ?_) (fun hb => ?_)
  · have hx := same_ he hb
    subst hx
    conv => cbv
    intro ρ R'' hle hpub _
    exact ⟨⟨ρ 0, 0, none⟩, rfl, CellsAt.blk (hpub 0 _ rfl)⟩
  have n170 := ne_ he hb
  clear hb
  have h0 : 171 ≤ x := by omega
  clear n170
  conv => cbv
  refine br_of (fun hb => ?_) (fun hb => ?_)
  · have hx := same_ he hb
    subst hx
    conv => cbv
    intro ρ R'' hle hpub _
    exact ⟨⟨ρ 0, 0, none⟩, rfl, CellsAt.blk (hpub 0 _ rfl)⟩
  have n171 := ne_ he hb
  clear hb
  have h0 : 172 ≤ x := by omega
  clear n171
  conv => cbv
  refine br_of (fun hb => ?_) (fun hb => ?_)
  · have hx := same_ he hb
    subst hx
    conv => cbv
    intro ρ R'' hle hpub _
    exact ⟨⟨ρ 0, 0, none⟩, rfl, CellsAt.blk (hpub 0 _ rfl)⟩
  have n172 := ne_ he hb
  clear hb
  have h0 : 173 ≤ x := by omega
  clear n172
  conv => cbv
  refine br_of (fun hb => ?_) (fun hb => ?_)
  · have hx := same_ he hb
    subst hx
    conv => cbv
    intro ρ R'' hle hpub _
    exact ⟨⟨ρ 0, 0, none⟩, rfl, CellsAt.blk (hpub 0 _ rfl)⟩
  have n173 := ne_ he hb
  clear hb
  have h0 : 174 ≤ x := by omega
  clear n173
  conv => cbv
  refine br_of (fun hb => ?_) (fun hb => ?_)
  · have hx := same_ he hb
    subst hx
    conv => cbv
    intro ρ R'' hle hpub _
    exact ⟨⟨ρ 0, 0, none⟩, rfl, CellsAt.blk (hpub 0 _ rfl)⟩
  have n174 := ne_ he hb
  clear hb
  have h0 : 175 ≤ x := by omega
  clear n174
  conv => cbv
  refine br_of (fun hb => ?_) (fun hb => ?_)
  · have hx := same_ he hb
    subst hx
    conv => cbv
    intro ρ R'' hle hpub _
    exact ⟨⟨ρ 0, 0, none⟩, rfl, CellsAt.blk (hpub 0 _ rfl)⟩
  have n175 := ne_ he hb
  clear hb
  have h0 : 176 ≤ x := by omega
  clear n175
  conv => cbv
  refine br_of (fun hb => ?_) (fun hb => ?_)
  · have hx := same_ he hb
    subst hx
    conv => cbv
    intro ρ R'' hle hpub _
    exact ⟨⟨ρ 0, 0, none⟩, rfl, CellsAt.blk (hpub 0 _ rfl)⟩
  have n186 := ne_ he hb
  clear hb
  conv => cbv
  refine br_of (fun hb => ?_) (fun hb => ?_)
  · have hx := same_ he hb
    subst hx
    conv => cbv
    intro ρ R'' hle hpub _
    exact ⟨⟨ρ 0, 0, none⟩, rfl, CellsAt.blk (hpub 0 _ rfl)⟩
  have n176 := ne_ he hb
  clear hb
  have h0 : 179 ≤ x := by omega
  clear n176 n177 n178
  conv => cbv
  refine br_of (fun hb => ?_) (fun hb => ?_)
  · have hx := same_ he hb
    subst hx
    conv => cbv
    intro ρ R'' hle hpub _
    exact ⟨⟨ρ 0, 0, none⟩, rfl, CellsAt.blk (hpub 0 _ rfl)⟩
  have n179 := ne_ he hb
  clear hb
  have h0 : 180 ≤ x := by omega
  clear n179
  conv => cbv
  refine br_of (fun hb => ?_) (fun hb => ?_)
  · have hx := same_ he hb
    subst hx
    conv => cbv
    intro ρ R'' hle hpub _
    exact ⟨⟨ρ 0, 0, none⟩, rfl, CellsAt.blk (hpub 0 _ rfl)⟩
  have n180 := ne_ he hb
  clear hb
  have h0 : 181 ≤ x := by omega
  clear n180
  conv => cbv
  refine br_of (fun hb => ?_) (fun hb => ?_)
  · have hx := same_ he hb
    subst hx
    conv => cbv
    intro ρ R'' hle hpub _
    exact ⟨⟨ρ 0, 0, none⟩, rfl, CellsAt.blk (hpub 0 _ rfl)⟩
  have n181 := ne_ he hb
  clear hb
  have h0 : 182 ≤ x := by omega
  clear n181
  conv => cbv
  refine br_of (fun hb => ?_) (fun hb => ?_)
  · have hx := same_ he hb
    subst hx
    conv => cbv
    intro ρ R'' hle hpub _
    exact ⟨⟨ρ 0, 0, none⟩, rfl, CellsAt.blk (hpub 0 _ rfl)⟩
  have n182 := ne_ he hb
  clear hb
  have h0 : 183 ≤ x := by omega
  clear n182
  conv => cbv
  refine br_of (fun hb => ?_) (fun hb => ?_)
  · have hx := same_ he hb
    subst hx
    conv => cbv
    intro ρ R'' hle hpub _
    exact ⟨⟨ρ 0, 0, none⟩, rfl, CellsAt.blk (hpub 0 _ rfl)⟩
  have n183 := ne_ he hb
  clear hb
  have h0 : 184 ≤ x := by omega
  clear n183
  conv => cbv
  refine br_of (fun hb => ?_) (fun hb => ?_)
  · have hx := same_ he hb
    subst hx
    conv => cbv
    intro ρ R'' hle hpub _
    exact ⟨⟨ρ 0, 0, none⟩, rfl, CellsAt.blk (hpub 0 _ rfl)⟩
  have n184 := ne_ he hb
  clear hb
  have h0 : 185 ≤ x := by omega
  clear n184
  conv => cbv
  refine br_of (fun hb => ?_) (fun hb => ?_)
  · have hx := same_ he hb
    subst hx
    conv => cbv
    intro ρ R'' hle hpub _
    exact ⟨⟨ρ 0, 0, none⟩, rfl, CellsAt.blk (hpub 0 _ rfl)⟩
  have n185 := ne_ he hb
  clear hb
  have h0 : 187 ≤ x := by omega
  clear n185 n186
  conv => cbv
  refine br_of (fun hb => ?_) (fun hb => ?_)
  · have hx := same_ he hb
    subst hx
    conv => cbv
    intro ρ R'' hle hpub _
    exact ⟨⟨ρ 0, 0, none⟩, rfl, CellsAt.blk (hpub 0 _ rfl)⟩
  have n187 := ne_ he hb
  clear hb
  have h0 : 188 ≤ x := by omega
  clear n187
  conv => cbv
  refine br_of (fun hb => ?_) (fun hb => ?_)
  · have hx := same_ he hb
    subst hx
    conv => cbv
    intro ρ R'' hle hpub _
    exact ⟨⟨ρ 0, 0, none⟩, rfl, CellsAt.blk (hpub 0 _ rfl)⟩
  have n188 := ne_ he hb
  clear hb
  have h0 : 189 ≤ x := by omega
  clear n188
  conv => cbv
  refine br_of (fun hb => ?_) (fun hb => ?_)
  · have hx := same_ he hb
    subst hx
    conv => cbv
    intro ρ R'' hle hpub _
    exact ⟨⟨ρ 0, 0, none⟩, rfl, CellsAt.blk (hpub 0 _ rfl)⟩
  have n189 := ne_ he hb
  clear hb
  have h0 : 190 ≤ x := by omega
  clear n189
  conv => cbv
  refine br_of (fun hb => ?_) (fun hb => ?_)
  · have hx := same_ he hb
    subst hx
    conv => cbv
    intro ρ R'' hle hpub _
    exact ⟨⟨ρ 0, 0, none⟩, rfl, CellsAt.blk (hpub 0 _ rfl)⟩
  have n190 := ne_ he hb
  clear hb
  have h0 : 191 ≤ x := by omega
  clear n190
  conv => cbv
  refine br_of (fun hb => ?_) (fun hb => ?_)
  · have hx := same_ he hb
    subst hx
    conv => cbv
    intro ρ R'' hle hpub _
    exact ⟨⟨ρ 0, 0, none⟩, rfl, CellsAt.blk (hpub 0 _ rfl)⟩
  have n191 := ne_ he hb
  clear hb
  have h0 : 192 ≤ x := by omega
  clear n191
  conv => cbv
  refine br_of (fun hb => ?_) (fun hb => ?_)
  · have hx := same_ he hb
    subst hx
    conv => cbv
    intro ρ R'' hle hpub _
    exact ⟨⟨ρ 0, 0, none⟩, rfl, CellsAt.blk (hpub 0 _ rfl)⟩
  have n192 := ne_ he hb
  clear hb
  have h0 : 193 ≤ x := by omega
  clear n192
  conv => cbv
  refine br_of (fun hb => ?_) (fun hb => ?_)
  · have hx := same_ he hb
    subst hx
    conv => cbv
    intro ρ R'' hle hpub _
    exact ⟨⟨ρ 0, 0, none⟩, rfl, CellsAt.blk (hpub 0 _ rfl)⟩
  have n193 := ne_ he hb
  clear hb
  have h0 : 194 ≤ x := by omega
  clear n193
  conv => cbv
  refine br_of (fun hb => ?_) (fun hb => ?_)
  · have hx := same_ he hb
    subst hx
    conv => cbv
    intro ρ R'' hle hpub _
    exact ⟨⟨ρ 0, 0, none⟩, rfl, CellsAt.blk (hpub 0 _ rfl)⟩
  have n194 := ne_ he hb
  clear hb
  have h0 : 195 ≤ x := by omega
  clear n194
  conv => cbv
  refine br_of (fun hb => ?_) (fun hb => ?_)
  · have hx := same_ he hb
    subst hx
    conv => cbv
    intro ρ R'' hle hpub _
    exact ⟨⟨ρ 0, 0, none⟩, rfl, CellsAt.blk (hpub 0 _ rfl)⟩
  have n195 := ne_ he hb
  clear hb
  have h0 : 196 ≤ x := by omega
  clear n195
  conv => cbv
  refine br_of (fun hb => ?_) (fun hb => ?_)
  · have hx := same_ he hb
    subst hx
    conv => cbv
    intro ρ R'' hle hpub _
    exact ⟨⟨ρ 0, 0, none⟩, rfl, CellsAt.blk (hpub 0 _ rfl)⟩
  have n196 := ne_ he hb
  clear hb
  have h0 : 197 ≤ x := by omega
  clear n196
  conv => cbv
  refine br_of (fun hb => ?_) (fun hb => ?_)
  · have hx := same_ he hb
    subst hx
    conv => cbv
    intro ρ R'' hle hpub _
    exact ⟨⟨ρ 0, 0, none⟩, rfl, CellsAt.blk (hpub 0 _ rfl)⟩
  have n197 := ne_ he hb
  clear hb
  have h0 : 198 ≤ x := by omega
  clear n197
  conv => cbv
  refine br_of (fun hb => ?_) (fun hb => ?_)
  · have hx := same_ he hb
    subst hx
    conv => cbv
    intro ρ R'' hle hpub _
    exact ⟨⟨ρ 0, 0, none⟩, rfl, CellsAt.blk (hpub 0 _ rfl)⟩
  have n198 := ne_ he hb
  clear hb
  have h0 : 199 ≤ x := by omega
  clear n198
  conv => cbv
  refine br_of (fun hb => ?_) (fun hb => ?_)
  · have hx := same_ he hb
    subst hx
    conv => cbv
    intro ρ R'' hle hpub _
    exact ⟨⟨ρ 0, 0, none⟩, rfl, CellsAt.blk (hpub 0 _ rfl)⟩
  have n199 := ne_ he hb
  clear hb
  have h0 : 200 ≤ x := by omega
  clear n199
  conv => cbv
  refine br_of (fun hb => ?_) (fun hb => ?_)
  · have hx := same_ he hb
    subst hx
    conv => cbv
    intro ρ R'' hle hpub _
    exact ⟨⟨ρ 0, 0, none⟩, rfl, CellsAt.blk (hpub 0 _ rfl)⟩
  have n200 := ne_ he hb
  clear hb
  have h0 : 201 ≤ x := by omega
  clear n200
  conv => cbv
  refine br_of (fun hb => ?_) (fun hb => ?_)
  · have hx := same_ he hb
    subst hx
    conv => cbv
    intro ρ R'' hle hpub _
    exact ⟨⟨ρ 0, 0, none⟩, rfl, CellsAt.blk (hpub 0 _ rfl)⟩
  have n201 := ne_ he hb
  clear hb
  have h0 : 202 ≤ x := by omega
  clear n201
  conv => cbv
  refine br_of (fun hb => ?_) (fun hb => ?_)
  · have hx := same_ he hb
    subst hx
    conv => cbv
    intro ρ R'' hle hpub _
    exact ⟨⟨ρ 0, 0, none⟩, rfl, CellsAt.blk (hpub 0 _ rfl)⟩
  have n202 := ne_ he hb
  clear hb
  have h0 : 203 ≤ x := by omega
  clear n202
  conv => cbv
  refine br_of (fun hb => ?_) (fun hb => ?_)
  · have hx := same_ he hb
    subst hx
    conv => cbv
    intro ρ R'' hle hpub _
    exact ⟨⟨ρ 0, 0, none⟩, rfl, CellsAt.blk (hpub 0 _ rfl)⟩
  have n203 := ne_ he hb
  clear hb
  have h0 : 204 ≤ x := by omega
  clear n203
  conv => cbv
  refine br_of (fun hb => ?_) (fun hb => ?_)
  · have hx := same_ he hb
    subst hx
    conv => cbv
    intro ρ R'' hle hpub _
    exact ⟨⟨ρ 0, 0, none⟩, rfl, CellsAt.blk (hpub 0 _ rfl)⟩
  have n204 := ne_ he hb
  clear hb
  have h0 : 205 ≤ x := by omega
  clear n204
  conv => cbv
  refine br_of (fun hb => ?_) (fun hb => ?_)
  · have hx := same_ he hb
    subst hx
    conv => cbv
    intro ρ R'' hle hpub _
    exact ⟨⟨ρ 0, 0, none⟩, rfl, CellsAt.blk (hpub 0 _ rfl)⟩
  have n205 := ne_ he hb
  clear hb
  have h0 : 206 ≤ x := by omega
  clear n205
  conv => cbv
  refine br_of (fun hb => ?_) (fun hb => ?_)
  · have hx := same_ he hb
    subst hx
    conv => cbv
    intro ρ R'' hle hpub _
    exact ⟨⟨ρ 0, 0, none⟩, rfl, CellsAt.blk (hpub 0 _ rfl)⟩
  have n206 := ne_ he hb
  clear hb
  have h0 : 207 ≤ x := by omega
  clear n206
  conv => cbv
  refine br_of (fun hb => ?_) (fun hb => ?_)
  · have hx := same_ he hb
    subst hx
    conv => cbv
    intro ρ R'' hle hpub _
    exact ⟨⟨ρ 0, 0, none⟩, rfl, CellsAt.blk (hpub 0 _ rfl)⟩
  have n207 := ne_ he hb
  clear hb
  have h0 : 208 ≤ x := by omega
  clear n207
  conv => cbv
  refine br_of (fun hb => ?_) (fun hb => ?_)
  · have hx := same_ he hb
    subst hx
    conv => cbv
    intro ρ R'' hle hpub _
    exact ⟨⟨ρ 0, 0, none⟩, rfl, CellsAt.blk (hpub 0 _ rfl)⟩
  have n208 := ne_ he hb
  clear hb
  have h0 : 209 ≤ x := by omega
  clear n208
  conv => cbv
  refine br_of (fun hb => ?_) (fun hb => ?_)
  · have hx := same_ he hb
    subst hx
    conv => cbv
    intro ρ R'' hle hpub _
    exact ⟨⟨ρ 0, 0, none⟩, rfl, CellsAt.blk (hpub 0 _ rfl)⟩
  have n209 := ne_ he hb
  clear hb
  have h0 : 210 ≤ x := by omega
  clear n209
  conv => cbv
  refine br_of (fun hb => ?_) (fun hb => ?_)
  · have hx := same_ he hb
    subst hx
    conv => cbv
    intro ρ R'' hle hpub _
    exact ⟨⟨ρ 0, 0, none⟩, rfl, CellsAt.blk (hpub 0 _ rfl)⟩
  have n210 := ne_ he hb
  clear hb
  have h0 : 211 ≤ x := by omega
  clear n210
  conv => cbv
  refine br_of (fun hb => ?_) (fun hb => ?_)
  · have hx := same_ he hb
    subst hx
    conv => cbv
    intro ρ R'' hle hpub _
    exact ⟨⟨ρ 0, 0, none⟩, rfl, CellsAt.blk (hpub 0 _ rfl)⟩
  have n211 := ne_ he hb
  clear hb
  have h0 : 212 ≤ x := by omega
  clear n211
  conv => cbv
  refine br_of (fun hb => ?_) (fun hb => ?_)
  · have hx := same_ he hb
    subst hx
    conv => cbv
    intro ρ R'' hle hpub _
    exact ⟨⟨ρ 0, 0, none⟩, rfl, CellsAt.blk (hpub 0 _ rfl)⟩
  have n212 := ne_ he hb
  clear hb
  have h0 : 213 ≤ x := by omega
  clear n212
  conv => cbv
  refine br_of (fun hb => ?_) (fun hb => ?_)
  · have hx := same_ he hb
    subst hx
    conv => cbv
    intro ρ R'' hle hpub _
    exact ⟨⟨ρ 0, 0, none⟩, rfl, CellsAt.blk (hpub 0 _ rfl)⟩
  have n213 := ne_ he hb
  clear hb
  have h0 : 214 ≤ x := by omega
  clear n213
  conv => cbv
  refine br_of (fun hb => ?_) (fun hb => ?_)
  · have hx := same_ he hb
    subst hx
    conv => cbv
    intro ρ R'' hle hpub _
    exact ⟨⟨ρ 0, 0, none⟩, rfl, CellsAt.blk (hpub 0 _ rfl)⟩
  have n214 := ne_ he hb
  clear hb
  have h0 : 215 ≤ x := by omega
  clear n214
  conv => cbv
  refine br_of (fun hb => ?_) (fun hb => ?_)
  · have hx := same_ he hb
    subst hx
    conv => cbv
    intro ρ R'' hle hpub _
    exact ⟨⟨ρ 0, 0, none⟩, rfl, CellsAt.blk (hpub 0 _ rfl)⟩
  have n215 := ne_ he hb
  clear hb
  have h0 : 216 ≤ x := by omega
  clear n215
  conv => cbv
  refine br_of (fun hb => ?_) (fun hb => ?_)
  · have hx := same_ he hb
    subst hx
    conv => cbv
    intro ρ R'' hle hpub _
    exact ⟨⟨ρ 0, 0, none⟩, rfl, CellsAt.blk (hpub 0 _ rfl)⟩
  have n216 := ne_ he hb
  clear hb
  have h0 : 217 ≤ x := by omega
  clear n216
  conv => cbv
  refine br_of (fun hb => ?_) (fun hb => ?_)
  · have hx := same_ he hb
    subst hx
    conv => cbv
    intro ρ R'' hle hpub _
    exact ⟨⟨ρ 0, 0, none⟩, rfl, CellsAt.blk (hpub 0 _ rfl)⟩
  have n217 := ne_ he hb
  clear hb
  have h0 : 218 ≤ x := by omega
  clear n217
  conv => cbv
  refine br_of (fun hb => ?_) (fun hb => ?_)
  · have hx := same_ he hb
    subst hx
    conv => cbv
    intro ρ R'' hle hpub _
    exact ⟨⟨ρ 0, 0, none⟩, rfl, CellsAt.blk (hpub 0 _ rfl)⟩
  have n218 := ne_ he hb
  clear hb
  have h0 : 219 ≤ x := by omega
  clear n218
  conv => cbv
  refine br_of (fun hb => ?_) (fun hb => ?_)
  · have hx := same_ he hb
    subst hx
    conv => cbv
    intro ρ R'' hle hpub _
    exact ⟨⟨ρ 0, 0, none⟩, rfl, CellsAt.blk (hpub 0 _ rfl)⟩
  have n219 := ne_ he hb
  clear hb
  have h0 : 220 ≤ x := by omega
  clear n219
  conv => cbv
  refine br_of (fun hb => ?_) (fun hb => ?_)
  · have hx := same_ he hb
    subst hx
    conv => cbv
    intro ρ R'' hle hpub _
    exact ⟨⟨ρ 0, 0, none⟩, rfl, CellsAt.blk (hpub 0 _ rfl)⟩
  have n220 := ne_ he hb
  clear hb
  have h0 : 221 ≤ x := by omega
  clear n220
  conv => cbv
  refine br_of (fun hb => ?_) (fun hb => ?_)
  · have hx := same_ he hb
    subst hx
    conv => cbv
    intro ρ R'' hle hpub _
    exact ⟨⟨ρ 0, 0, none⟩, rfl, CellsAt.blk (hpub 0 _ rfl)⟩
  have n221 := ne_ he hb
  clear hb
  have h0 : 222 ≤ x := by omega
  clear n221
  conv => cbv
  refine br_of (fun hb => ?_) (fun hb => ?_)
  · have hx := same_ he hb
    subst hx
    conv => cbv
    intro ρ R'' hle hpub _
    exact ⟨⟨ρ 0, 0, none⟩, rfl, CellsAt.blk (hpub 0 _ rfl)⟩
  have n222 := ne_ he hb
  clear hb
  have h0 : 223 ≤ x := by omega
  clear n222
  conv => cbv
  refine br_of (fun hb => ?_) (fun hb => ?_)
  · have hx := same_ he hb
    subst hx
    conv => cbv
    intro ρ R'' hle hpub _
    exact ⟨⟨ρ 0, 0, none⟩, rfl, CellsAt.blk (hpub 0 _ rfl)⟩
  have n223 := ne_ he hb
  clear hb
  have h0 : 224 ≤ x := by omega
  clear n223
  conv => cbv
  refine br_of (fun hb => ?_) (fun hb => ?_)
  · have hx := same_ he hb
    subst hx
    conv => cbv
    intro ρ R'' hle hpub _
    exact ⟨⟨ρ 0, 0, none⟩, rfl, CellsAt.blk (hpub 0 _ rfl)⟩
  have n224 := ne_ he hb
  clear hb
  have h0 : 225 ≤ x := by omega
  clear n224
  conv => cbv
  refine br_of (fun hb => ?_) (fun hb => ?_)
  · have hx := same_ he hb
    subst hx
    conv => cbv
    intro ρ R'' hle hpub _
    exact ⟨⟨ρ 0, 0, none⟩, rfl, CellsAt.blk (hpub 0 _ rfl)⟩
  have n225 := ne_ he hb
  clear hb
  have h0 : 226 ≤ x := by omega
  clear n225
  conv => cbv
  refine br_of (fun hb => ?_) (fun hb => ?_)
  · have hx := same_ he hb
    subst hx
    conv => cbv
    intro ρ R'' hle hpub _
    exact ⟨⟨ρ 0, 0, none⟩, rfl, CellsAt.blk (hpub 0 _ rfl)⟩
  have n226 := ne_ he hb
  clear hb
  have h0 : 227 ≤ x := by omega
  clear n226
  conv => cbv
  refine br_of (fun hb => ?_) (fun hb => ?_)
  · have hx := same_ he hb
    subst hx
    conv => cbv
    intro ρ R'' hle hpub _
    exact ⟨⟨ρ 0, 0, none⟩, rfl, CellsAt.blk (hpub 0 _ rfl)⟩
  have n227 := ne_ he hb
  clear hb
  have h0 : 228 ≤ x := by omega
  clear n227
  conv => cbv
  refine br_of (fun hb => ?_) (fun hb => ?_)
  · have hx := same_ he hb
    subst hx
    conv => cbv
    intro ρ R'' hle hpub _
    exact ⟨⟨ρ 0, 0, none⟩, rfl, CellsAt.blk (hpub 0 _ rfl)⟩
  have n228 := ne_ he hb
  clear hb
  have h0 : 229 ≤ x := by omega
  clear n228
  conv => cbv
  refine br_of (fun hb => ?_) (fun hb => ?_)
  · have hx := same_ he hb
    subst hx
    conv => cbv
    intro ρ R'' hle hpub _
    exact ⟨⟨ρ 0, 0, none⟩, rfl, CellsAt.blk (hpub 0 _ rfl)⟩
  have n229 := ne_ he hb
  clear hb
  have h0 : 230 ≤ x := by omega
  clear n229
  conv => cbv
  refine br_of (fun hb => ?_) (fun hb => ?_)
  · have hx := same_ he hb
    subst hx
    conv => cbv
    intro ρ R'' hle hpub _
    exact ⟨⟨ρ 0, 0, none⟩, rfl, CellsAt.blk (hpub 0 _ rfl)⟩
  have n230 := ne_ he hb
  clear hb
  have h0 : 231 ≤ x := by omega
  clear n230
  conv => cbv
  refine br_of (fun hb => ?_) (fun hb => ?_)
  · have hx := same_ he hb
    subst hx
    conv => cbv
    intro ρ R'' hle hpub _
    exact ⟨⟨ρ 0, 0, none⟩, rfl, CellsAt.blk (hpub 0 _ rfl)⟩
  have n231 := ne_ he hb
  clear hb
  have h0 : 232 ≤ x := by omega
  clear n231
  conv => cbv
  refine br_of (fun hb => ?_) (fun hb => ?_)
  · have hx := same_ he hb
    subst hx
    conv => cbv
    intro ρ R'' hle hpub _
    exact ⟨⟨ρ 0, 0, none⟩, rfl, CellsAt.blk (hpub 0 _ rfl)⟩
  have n232 := ne_ he hb
  clear hb
  have h0 : 233 ≤ x := by omega
  clear n232
  conv => cbv
  refine br_of (fun hb => ?_) (fun hb => ?_)
  · have hx := same_ he hb
    subst hx
    conv => cbv
    intro ρ R'' hle hpub _
    exact ⟨⟨ρ 0, 0, none⟩, rfl, CellsAt.blk (hpub 0 _ rfl)⟩
  have n233 := ne_ he hb
  clear hb
  have h0 : 234 ≤ x := by omega
  clear n233
  conv => cbv
  refine br_of (fun hb => ?_) (fun hb => ?_)
  · have hx := same_ he hb
    subst hx
    conv => cbv
    intro ρ R'' hle hpub _
    exact ⟨⟨ρ 0, 0, none⟩, rfl, CellsAt.blk (hpub 0 _ rfl)⟩
  have n234 := ne_ he hb
  clear hb
  have h0 : 235 ≤ x := by omega
  clear n234
  conv => cbv
  refine br_of (fun hb => ?_) (fun hb => ?_)
  · have hx := same_ he hb
    subst hx
    conv => cbv
    intro ρ R'' hle hpub _
    exact ⟨⟨ρ 0, 0, none⟩, rfl, CellsAt.blk (hpub 0 _ rfl)⟩
  have n235 := ne_ he hb
  clear hb
  have h0 : 236 ≤ x := by omega
  clear n235
  conv => cbv
  refine br_of (fun hb => ?_) (fun hb => ?_)
  · have hx := same_ he hb
    subst hx
    conv => cbv
    intro ρ R'' hle hpub _
    exact ⟨⟨ρ 0, 0, none⟩, rfl, CellsAt.blk (hpub 0 _ rfl)⟩
  have n236 := ne_ he hb
  clear hb
  have h0 : 237 ≤ x := by omega
  clear n236
  conv => cbv
  refine br_of (fun hb => ?_) (fun hb => ?_)
  · have hx := same_ he hb
    subst hx
    conv => cbv
    intro ρ R'' hle hpub _
    exact ⟨⟨ρ 0, 0, none⟩, rfl, CellsAt.blk (hpub 0 _ rfl)⟩
  have n237 := ne_ he hb
  clear hb
  have h0 : 238 ≤ x := by omega
  clear n237
  conv => cbv
  refine br_of (fun hb => ?_) (fun hb => ?_)
  · have hx := same_ he hb
    subst hx
    conv => cbv
    intro ρ R'' hle hpub _
    exact ⟨⟨ρ 0, 0, none⟩, rfl, CellsAt.blk (hpub 0 _ rfl)⟩
  have n238 := ne_ he hb
  clear hb
  have h0 : 239 ≤ x := by omega
  clear n238
  conv => cbv
  refine br_of (fun hb => ?_) (fun hb => ?_)
  · have hx := same_ he hb
    subst hx
    conv => cbv
    intro ρ R'' hle hpub _
    exact ⟨⟨ρ 0, 0, none⟩, rfl, CellsAt.blk (hpub 0 _ rfl)⟩
  have n239 := ne_ he hb
  clear hb
  have h0 : 240 ≤ x := by omega
  clear n239
  conv => cbv
  refine br_of (fun hb => ?_) (fun hb => ?_)
  · have hx := same_ he hb
    subst hx
    conv => cbv
    intro ρ R'' hle hpub _
    exact ⟨⟨ρ 0, 0, none⟩, rfl, CellsAt.blk (hpub 0 _ rfl)⟩
  have n240 := ne_ he hb
  clear hb
  have h0 : 241 ≤ x := by omega
  clear n240
  conv => cbv
  refine br_of (fun hb => ?_) (fun hb => ?_)
  · have hx := same_ he hb
    subst hx
    conv => cbv
    intro ρ R'' hle hpub _
    exact ⟨⟨ρ 0, 0, none⟩, rfl, CellsAt.blk (hpub 0 _ rfl)⟩
  have n241 := ne_ he hb
  clear hb
  have h0 : 242 ≤ x := by omega
  clear n241
  conv => cbv
  refine br_of (fun hb => ?_) (fun hb => ?_)
  · have hx := same_ he hb
    subst hx
    conv => cbv
    intro ρ R'' hle hpub _
    exact ⟨⟨ρ 0, 0, none⟩, rfl, CellsAt.blk (hpub 0 _ rfl)⟩
  have n242 := ne_ he hb
  clear hb
  have h0 : 243 ≤ x := by omega
  clear n242
  conv => cbv
  refine br_of (fun hb => ?_) (fun hb => ?_)
  · have hx := same_ he hb
    subst hx
    conv => cbv
    intro ρ R'' hle hpub _
    exact ⟨⟨ρ 0, 0, none⟩, rfl, CellsAt.blk (hpub 0 _ rfl)⟩
  have n243 := ne_ he hb
  clear hb
  have h0 : 244 ≤ x := by omega
  clear n243
  conv => cbv
  refine br_of (fun hb => ?_) (fun hb => ?_)
  · have hx := same_ he hb
    subst hx
    conv => cbv
    intro ρ R'' hle hpub _
    exact ⟨⟨ρ 0, 0, none⟩, rfl, CellsAt.blk (hpub 0 _ rfl)⟩
  have n244 := ne_ he hb
  clear hb
  have h0 : 245 ≤ x := by omega
  clear n244
  conv => cbv
  refine br_of (fun hb => ?_) (fun hb => ?_)
  · have hx := same_ he hb
    subst hx
    conv => cbv
    intro ρ R'' hle hpub _
    exact ⟨⟨ρ 0, 0, none⟩, rfl, CellsAt.blk (hpub 0 _ rfl)⟩
  have n245 := ne_ he hb
  clear hb
  have h0 : 246 ≤ x := by omega
  clear n245
  conv => cbv
  refine br_of (fun hb => ?_) (fun hb => ?_)
  · have hx := same_ he hb
    subst hx
    conv => cbv
    intro ρ R'' hle hpub _
    exact ⟨⟨ρ 0, 0, none⟩, rfl, CellsAt.blk (hpub 0 _ rfl)⟩
  have n246 := ne_ he hb
  clear hb
  have h0 : 247 ≤ x := by omega
  clear n246
  conv => cbv
  refine br_of (fun hb => ?_) (fun hb => ?_)
  · have hx := same_ he hb
    subst hx
    conv => cbv
    intro ρ R'' hle hpub _
    exact ⟨⟨ρ 0, 0, none⟩, rfl, CellsAt.blk (hpub 0 _ rfl)⟩
  have n247 := ne_ he hb
  clear hb
  have h0 : 248 ≤ x := by omega
  clear n247
  conv => cbv
  refine br_of (fun hb => ?_) (fun hb => ?_)
  · have hx := same_ he hb
    subst hx
    conv => cbv
    intro ρ R'' hle hpub _
    exact ⟨⟨ρ 0, 0, none⟩, rfl, CellsAt.blk (hpub 0 _ rfl)⟩
  have n248 := ne_ he hb
  clear hb
  have h0 : 249 ≤ x := by omega
  clear n248
  conv => cbv
  refine br_of (fun hb => ?_) (fun hb => ?_)
  · have hx := same_ he hb
    subst hx
    conv => cbv
    intro ρ R'' hle hpub _
    exact ⟨⟨ρ 0, 0, none⟩, rfl, CellsAt.blk (hpub 0 _ rfl)⟩
  have n249 := ne_ he hb
  clear hb
  have h0 : 250 ≤ x := by omega
  clear n249
  conv => cbv
  refine br_of (fun hb => ?_) (fun hb => ?_)
  · have hx := same_ he hb
    subst hx
    conv => cbv
    intro ρ R'' hle hpub _
    exact ⟨⟨ρ 0, 0, none⟩, rfl, CellsAt.blk (hpub 0 _ rfl)⟩
  have n250 := ne_ he hb
  clear hb
  have h0 : 251 ≤ x := by omega
  clear n250
  conv => cbv
  refine br_of (fun hb => ?_) (fun hb => ?_)
  · have hx := same_ he hb
    subst hx
    conv => cbv
    intro ρ R'' hle hpub _
    exact ⟨⟨ρ 0, 0, none⟩, rfl, CellsAt.blk (hpub 0 _ rfl)⟩
  have n251 := ne_ he hb
  clear hb
  have h0 : 252 ≤ x := by omega
  clear n251
  conv => cbv
  refine br_of (fun hb => ?_) (fun hb => ?_)
  · have hx := same_ he hb
    subst hx
    conv => cbv
    intro ρ R'' hle hpub _
    exact ⟨⟨ρ 0, 0, none⟩, rfl, CellsAt.blk (hpub 0 _ rfl)⟩
  have n252 := ne_ he hb
  clear hb
  have h0 : 253 ≤ x := by omega
  clear n252
  conv => cbv
  refine br_of (fun hb => ?_) (fun hb => ?_)
  · have hx := same_ he hb
    subst hx
    conv => cbv
    intro ρ R'' hle hpub _
    exact ⟨⟨ρ 0, 0, none⟩, rfl, CellsAt.blk (hpub 0 _ rfl)⟩
  have n253 := ne_ he hb
  clear hb
  have h0 : 254 ≤ x := by omega
  clear n253
  conv => cbv
  refine br_of (fun hb => ?_) (fun hb => ?_)
  · have hx := same_ he hb
    subst hx
    conv => cbv
    intro ρ R'' hle hpub _
    exact ⟨⟨ρ 0, 0, none⟩, rfl, CellsAt.blk (hpub 0 _ rfl)⟩
  have n254 := ne_ he hb
  clear hb
  have h0 : 255 ≤ x := by omega
  clear n254
  conv => cbv
  refine br_of (fun hb => ?_) (fun hb => ?_)
  · have hx := same_ he hb
    subst hx
    conv => cbv
    intro ρ R'' hle hpub _
    exact ⟨⟨ρ 0, 0, none⟩, rfl, CellsAt.blk (hpub 0 _ rfl)⟩
  have n255 := ne_ he hb
  clear hb
  have h0 : 256 ≤ x := by omega
  clear n255
  conv => cbv
  exfalso
  omega
end Go.Proofs.Ythhlbpahndfdhaa.Ds
