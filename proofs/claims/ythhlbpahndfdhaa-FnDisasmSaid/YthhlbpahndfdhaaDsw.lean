/- One token written; a builder's string. -/
import Derived.Test.YthhlbpahndfdhaaDsv
import Derived.Test.YthhlbpahndfdhaaDse
import Derived.Test.YthhlbpahndfdhaaTyde
set_option linter.unusedSimpArgs false
set_option linter.unusedVariables false
namespace Go.Proofs.Ythhlbpahndfdhaa.Ds
open Go Go.Se Go.Proofs Go.Proofs.Ythhlbpahndfdhaa.Tyde
open Go.Proofs.Ythhlbpahndfdhaa.Tk (opl)

theorem piece_len {op : Int} {d : List Int} {m : Nat} (h0 : 0 ≤ op) (h1 : op ≤ 255) (hd : d.length ≤ m) : (piece op d).length ≤ 40 + 2 * m := by
  unfold piece
  split
  · have := decL_len 0; omega
  · split
    · have := decL_len (op - 80).toNat; omega
    · split
      · show 2 ≤ _; omega
      · split
        · rw [hexL_len]; omega
        · have := nm_len h0 h1; omega


set_option maxRecDepth 100000 in
set_option maxHeartbeats 4000000 in
theorem disC {P : Program} (hP : P = Try.prog) (R : RO) (ad : SV) (had : ad = .v (.pointer none) ∨ ad = .p 0 0) (a : Option Addr) (n c : Nat) (zs : List Int) (rs : List Row) (hb : Base1 rs [] a n c 5 1 (ints .u8 zs)) (hz : zs.length = n) (hn : n ≤ 1000000000)
    (op : Int) (op0 : 0 ≤ op) (op1 : op ≤ 255) (pa : Addr) (hpa : CellsAt R pa [.int .u8 op, .string (nmB op), .int .i64 (opl op)]) (a3 : Option Addr) (n3 c3 : Nat) (d : List Int) (h3 : RI R .u8 a3 n3 d) (hc3 : n3 ≤ c3) (hn3 : n3 ≤ 100000) (tb tj : HB) {K : RO → List (Nat × HB) → Nat → List Row → SV → Prop}
    (hg : ∀ (a2 : Option Addr) (n2 c2 : Nat) (rs2 : List Row) (r : SV), Base1 rs2 [] a2 n2 c2 5 1 (ints .u8 (zs ++ piece op d)) → n2 = n + (piece op d).length → (n2 ≠ 0 → a2.isSome = true) → K R [(2, tb), (1, tj), (0, ⟨44, [.p 0 0, .v (.slice a2 n2 c2)]⟩)] 3 rs2 r) :
    CallP P 15 [.p 0 0, .v (.pointer (some pa)), .v (.slice a3 n3 c3), .v (.bool true)] R [(2, tb), (1, tj), (0, ⟨44, [ad, .v (.slice a n c)]⟩)] 3 rs K := by
  subst hP
  have hpl := piece_len (m := 100000) op0 op1 (d := d) (by rw [← h3.len]; exact hn3)
  obtain ⟨L, hL⟩ : ∃ L, L = opl op := ⟨_, rfl⟩
  obtain ⟨nb, hnb⟩ : ∃ nb, nb = nmB op := ⟨_, rfl⟩
  have hnl : SB nb (nmL op) := by rw [hnb]; exact nm_sb op0 op1
  rw [← hL, ← hnb] at hpa
  refine callP_of_vc (fz := []) Try.func15 rfl (by decide) (Nat.le_of_ble_eq_true rfl) ok15 (by rcases had with rfl | rfl <;> simp [labL, lab]) ?_
  rintro P ⟨bin, cmp, cnv, neg, com, bnot, beq, ofN, toN, at_, sub_, scmp, cat, sget, ssz, ssub, elem, fld_⟩ hP hA
  conv => cbv
  refine ld_at hA hpa 1 rfl ?_
  conv => cbv
  refine (replP hP R nb (nmL op) hnl).callQ rfl ?_
  rintro _ ⟨s, b, rfl, hs⟩
  conv => cbv
  by_cases hh : 1 ≤ op ∧ op ≤ 78
  · have hpd : piece op d = hexL d := by unfold piece; rw [if_neg (by omega), if_neg (by omega), if_neg (by omega), if_pos (by omega)]
    have hL1 : L ≠ 1 := by rw [hL, opl]; repeat' split <;> omega
    have c1 : cmp .eql L 1 = false := by rw [cmp_eql hA]; exact beq_false_of_ne hL1
    cases b with
    | true =>
      conv => cbv
      refine ld_at hA hpa 2 rfl ?_
      conv => cbv
      simp (maxSteps := 10000000) only [c1]
      conv => cbv
      refine (hexP hP R a3 n3 c3 d h3 hc3 hn3).callQ rfl ?_
      rintro _ ⟨hb9, rfl, hs9⟩
      rw [← hpd] at hs9
      conv => cbv
      refine wsC hP R ad had a n c zs rs hb hz hn hb9 _ hs9 (by omega) tb tj ?_
      intro a2 n2 c2 rs2 r h1 h2 h3
      conv => cbv
      exact hg a2 n2 c2 rs2 _ h1 h2 h3
    | false =>
      conv => cbv
      refine ld_at hA hpa 2 rfl ?_
      conv => cbv
      simp (maxSteps := 10000000) only [c1]
      conv => cbv
      refine (hexP hP R a3 n3 c3 d h3 hc3 hn3).callQ rfl ?_
      rintro _ ⟨hb9, rfl, hs9⟩
      rw [← hpd] at hs9
      conv => cbv
      refine wsC hP R ad had a n c zs rs hb hz hn hb9 _ hs9 (by omega) tb tj ?_
      intro a2 n2 c2 rs2 r h1 h2 h3
      conv => cbv
      exact hg a2 n2 c2 rs2 _ h1 h2 h3
  have hL1 : L = 1 := by rw [hL, opl, if_neg (by omega), if_neg (by omega), if_neg (by omega), if_neg (by omega)]
  have hpr := piece_repl d op0 op1 hh
  have c1 : cmp .eql L 1 = true := by rw [cmp_eql hA, hL1]; rfl
  rcases hs with ⟨rfl, ys, hy, hsy⟩ | ⟨rfl, hy⟩
  · rw [hy] at hpr
    have hpr : ys = piece op d := hpr
    rw [hpr] at hsy
    conv => cbv
    refine ld_at hA hpa 2 rfl ?_
    conv => cbv
    simp (maxSteps := 10000000) only [c1]
    conv => cbv
    refine wsC hP R ad had a n c zs rs hb hz hn s _ hsy (by omega) tb tj ?_
    intro a2 n2 c2 rs2 r h1 h2 h3
    conv => cbv
    exact hg a2 n2 c2 rs2 _ h1 h2 h3
  · rw [hy] at hpr
    have hpr : nmL op = piece op d := hpr
    rw [hpr] at hnl
    conv => cbv
    refine ld_at hA hpa 2 rfl ?_
    conv => cbv
    simp (maxSteps := 10000000) only [c1]
    conv => cbv
    refine wsC hP R ad had a n c zs rs hb hz hn nb _ hnl (by omega) tb tj ?_
    intro a2 n2 c2 rs2 r h1 h2 h3
    conv => cbv
    exact hg a2 n2 c2 rs2 _ h1 h2 h3
end Go.Proofs.Ythhlbpahndfdhaa.Ds
