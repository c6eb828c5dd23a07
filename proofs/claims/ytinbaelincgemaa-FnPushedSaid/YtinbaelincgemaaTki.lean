/- Scripts cut into tokens: the law. -/
import Derived.Test.YtinbaelincgemaaTkh
import Derived.Test.YtinbaelincgemaaTko
set_option linter.unusedSimpArgs false
set_option linter.unusedVariables false
namespace Go.Proofs.Ytinbaelincgemaa.Tk
open Go Go.Se Go.Proofs Go.Proofs.Ytinbaelincgemaa.Tytok

theorem opSpec : OpSpec Try.prog := fun R x h0 h1 => opcodeOf rfl R x h0 h1


set_option maxRecDepth 100000 in
theorem sameL {P : Program} (hP : P = Try.prog) (R : RO) (a b : Option Addr) (n m cap c2 : Nat) (xs ys : List Int) (h : RI R .u8 a n xs) (h2 : RI R .u8 b m ys) (hn : n ≤ 1000000000000) (hm : m ≤ 1000000000000) :
    RetP P 19 [.slice a n cap, .slice b m c2] R fun _ v => ∃ r, v = .bool r ∧ (r = true ↔ xs = ys) := by
  subst hP
  have hl := h.len
  have hl2 := h2.len
  refine retP_vc (fz := []) Try.func19 rfl (by decide) rfl ok19 ?_
  intro P bin cmp cnv neg com bnot beq ofN toN at_ sub_ scmp cat sget ssz ssub elem fld_ hP hA
  conv => cbv
  have o := ofN_ hA n
  have o2 := ofN_ hA m
  by_cases h0 : n = m
  case neg =>
    refine br_t (by rw [o, o2, cmp_neq hA]; simp; omega) ?_
    conv => cbv
    intro ρ R'' _ _ _
    exact ⟨_, rfl, by simp; intro hx; rw [hx] at hl; omega⟩
  refine br_f (by rw [o, o2, cmp_neq hA]; simp; omega) ?_
  conv => cbv
  refine ⟨Int, fun x => ⟨[(5, .v (.int .i64 x)), (0, .v (.slice a n cap)), (1, .v (.slice b m c2))], R, [], 0, []⟩,
    fun k x => ∃ i : Nat, x = i ∧ i ≤ n ∧ k = n - i ∧ xs.take i = ys.take i, ⟨n, 0, ⟨⟨rfl, rfl, rfl, trivial⟩, rfl, trivial, rfl, .refl _⟩, 0, rfl, by omega, rfl, rfl⟩, ?_⟩
  rintro k x ⟨i, hx, hi, hk, ht⟩
  conv => cbv
  by_cases hlt : i < n
  · refine br_t (by rw [o, cmp_lss hA]; simp; omega) ?_
    conv => cbv
    refine ⟨[0, 1, 2, 3, 4, 5, 6, 7, 8], [], mix hP, by kernel_rfl, ?_⟩
    conv => cbv
    refine ix_u8 hA h i hx (by omega) ?_
    refine ld_u8 hA h (by omega) (by omega) ?_
    intro c hc c0 c1
    conv => cbv
    refine ix_u8 hA h2 i hx (by omega) ?_
    refine ld_u8 hA h2 (by omega) (by omega) ?_
    intro d hd d0 d1
    conv => cbv
    have hi1 : i < xs.length := by omega
    have hi2 : i < ys.length := by omega
    rw [hx, Int.toNat_natCast, List.getD_eq_getElem?_getD, List.getElem?_eq_getElem hi1] at hc
    rw [hx, Int.toNat_natCast, List.getD_eq_getElem?_getD, List.getElem?_eq_getElem hi2] at hd
    simp only [Option.getD_some] at hc hd
    by_cases he : c = d
    · refine br_f (by rw [cmp_neq hA, he]; simp) ?_
      conv => cbv
      refine ⟨n - (i + 1), x + 1, by omega, ⟨⟨?_, rfl, rfl, trivial⟩, rfl, trivial, rfl, .refl _⟩, i + 1, by show x + 1 = ((i + 1 : Nat) : Int); omega, by omega, rfl, ?_⟩
      · rw [add_i64 hA (by omega)]; rfl
      · rw [List.take_add_one, List.take_add_one, ht, List.getElem?_eq_getElem hi1, List.getElem?_eq_getElem hi2, ← hc, ← hd, he]
    · refine br_t (by rw [cmp_neq hA]; simpa using he) ?_
      conv => cbv
      intro ρ R'' _ _ _
      refine ⟨_, rfl, by simp; intro hxy; subst hxy; exact he (by rw [hc, hd])⟩
  · refine br_f (by rw [o, cmp_lss hA]; simp; omega) ?_
    conv => cbv
    intro ρ R'' _ _ _
    refine ⟨_, rfl, ?_⟩
    have : i = n := by omega
    subst this
    rw [List.take_of_length_le (by omega), List.take_of_length_le (by omega)] at ht
    simp [ht]

section
variable {bin : BinOp → IntKind → Int → Int → Int} {cmp : BinOp → Int → Int → Bool} {cnv : IntKind → Int → Int} {neg : IntKind → Int → Int} {com : IntKind → Int → Int} {bnot : Bool → Bool} {beq : Bool → Bool → Bool} {ofN : Nat → Int} {toN : Int → Nat} {at_ : Nat → Nat → Nat → Nat} {sub_ : Nat → Nat → Nat} {scmp : BinOp → ByteArray → ByteArray → Bool} {cat : ByteArray → ByteArray → ByteArray} {sget : ByteArray → Int → Int} {ssz : ByteArray → Nat} {ssub : ByteArray → Nat → Nat → ByteArray} {elem : Option Addr → Int → Nat → Addr} {fld_ : Addr → Nat → Addr}
  (hA : (⟨bin, cmp, cnv, neg, com, bnot, beq, ofN, toN, at_, sub_, scmp, cat, sget, ssz, ssub, elem, fld_⟩ : Ar) = Ar.real)
include hA
theorem ix_ri {R : RO} {k : IntKind} {a : Option Addr} {n : Nat} {xs : List Int} (h : RI R k a n xs) {i : Int} (j : Nat) (hj : i = j) (h1 : j < n) {q : Prop} (hq : q) : Idx i (ofN n) a q :=
  ⟨by omega, by rw [ofN_ hA]; omega, (h.at_ i (by omega) (by omega)).1, hq⟩
end



set_option maxRecDepth 100000 in
set_option maxHeartbeats 2000000 in
theorem law6 (R : RO) (a : Option Addr) (n c : Nat) (xs : List Int) (h : RI R .u8 a n xs) (hmx : n ≤ 9223372036854775807) (hc : n ≤ c) : RetP Try.prog 6 [.slice a n c] R fun _ v => v = .bool true := by
  have hl := h.len
  refine retP_vc (fz := []) Try.func6 rfl (by decide) rfl ok6 ?_
  intro P bin cmp cnv neg com bnot beq ofN toN at_ sub_ scmp cat sget ssz ssub elem fld_ hP hA
  conv => cbv
  have o := ofN_ hA n
  by_cases h1 : n > 2147483647
  · refine br_t (by rw [o, cmp_gtr hA]; simp; omega) ?_
    conv => cbv
    intro ρ R'' _ _ _
    rfl
  refine br_f (by rw [o, cmp_gtr hA]; simp; omega) ?_
  conv => cbv
  by_cases h2 : n > 100000
  · refine br_t (by rw [o, cmp_gtr hA]; simp; omega) ?_
    conv => cbv
    intro ρ R'' _ _ _
    rfl
  refine br_f (by rw [o, cmp_gtr hA]; simp; omega) ?_
  conv => cbv
  refine (tokens hP R a n c xs h (by omega) hc).callP rfl ?_
  rintro R1 _ hR1 ⟨a1, n1, c1, bad, l, p, rfl, ht, g0, hd⟩
  conv => cbv
  refine (thinTokens hP opSpec R1 a n c xs (h.le hR1) (by omega) hc).callP rfl ?_
  rintro R2 _ hR2 ⟨a2, n2, c2, a3, n3, c3, a4, n4, c4, kind, l', p', es, rfl, ht', he, g1, g2, g3, hkd⟩
  have hst' : Stuck xs p' := by
    rcases hkd with ⟨_, hp⟩ | ⟨_, _, hs⟩
    · exact stuck_end hp
    · exact .inr hs
  obtain ⟨rfl, rfl⟩ := ht.one hd.stuck ht' hst'
  conv => cbv
  have g0 := g0.le hR2 (TokAt.le hR2)
  have l0 := g0.len
  have l1 := g1.len
  have l2 := g2.len
  have l3 := g3.len
  have l4 := he.1
  have hle := ht.le
  rw [List.length_map] at l1 l2
  have e0 := ofN_ hA n1
  have e1 := ofN_ hA n2
  have e2 := ofN_ hA n3
  have e3 := ofN_ hA n4
  have q1 : cmp .neq (ofN n2) (ofN n1) = false := by rw [e0, e1, cmp_neq hA, l1, l0]; simp
  have q2 : cmp .neq (ofN n3) (ofN n1) = false := by rw [e0, e2, cmp_neq hA, l2, l0]; simp
  have q3 : cmp .neq (ofN n4) (ofN n1) = false := by rw [e0, e3, cmp_neq hA, l3, l4, l0]; simp
  have q4 : bnot (beq (cmp .eql kind 0) (cmp .lss bad 0)) = false := by
    rw [bnot_ hA, beq_ hA, cmp_eql hA, cmp_lss hA]
    rcases hkd with ⟨hk, hp⟩ | ⟨hk, hp, _⟩ <;> rcases hd with ⟨hb, hp2⟩ | ⟨hb, hp2, _⟩
    · rw [hk, hb]; rfl
    · omega
    · omega
    · have x1 : (kind == 0) = false := by simpa using hk
      have x2 : decide (bad < 0) = false := decide_eq_false (by omega)
      rw [x1, x2]; rfl
  simp only [q1]
  conv => cbv
  simp only [q2]
  conv => cbv
  simp only [q3]
  conv => cbv
  simp only [q4]
  conv => cbv
  refine ⟨Int, fun x => ⟨[(9, .v (.int .i64 x)), (3, .v (.slice a1 n1 c1)), (0, .v (.slice a n c)), (4, .v (.int .i64 bad)), (5, .v (.slice a2 n2 c2)), (6, .v (.slice a3 n3 c3)), (7, .v (.slice a4 n4 c4))], R2, [], 0, []⟩,
    fun k x => ∃ j : Nat, x = j ∧ j ≤ l.length ∧ k = l.length - j, ⟨l.length, 0, ⟨⟨rfl, rfl, rfl, rfl, rfl, rfl, rfl, trivial⟩, rfl, trivial, rfl, .refl _⟩, 0, rfl, by omega, rfl⟩, ?_⟩
  rintro k x ⟨j, hx, hj, hk⟩
  conv => cbv
  by_cases hlt : j < l.length
  case neg =>
    refine br_f (by rw [e0, cmp_lss hA]; simp; omega) ?_
    conv => cbv
    intro ρ R'' _ _ _
    rfl
  refine br_t (by rw [e0, cmp_lss hA]; simp; omega) ?_
  conv => cbv
  obtain ⟨q, hxq⟩ : ∃ q, l[j]? = some q := ⟨_, List.getElem?_eq_getElem hlt⟩
  have hend := he.2 j hlt
  have ex : bin .add .i64 x 1 = ((j + 1 : Nat) : Int) := by rw [add_i64 hA (by omega)]; omega
  by_cases hnx : j + 1 < l.length
  · rw [if_pos hnx] at hend
    obtain ⟨t, hxt⟩ : ∃ t, l[j + 1]? = some t := ⟨_, List.getElem?_eq_getElem hnx⟩
    refine br_t (by rw [ex, e0, cmp_lss hA]; simp; omega) ?_
    conv => cbv
    refine ix_at hA g0 (j + 1) ex (by omega) ?_
    refine ld_fld hA g0 (j + 1) ex hxt 2 ?_
    rintro _ - ⟨b9, m9, d9, rfl, -⟩
    refine ⟨_, rfl, ?_⟩
    conv => cbv
    have hEE : es.getD j 0 = (t.pos : Int) := by rw [hend]; simp only [List.getD_eq_getElem?_getD, List.getElem?_map, hxt]; rfl
    refine ⟨[0, 1, 2, 3, 4, 5, 6, 7, 8, 9, 10, 11, 12, 13, 14, 15, 16, 17, 18, 19, 20, 21, 22, 23, 24, 25, 26, 27, 28, 29, 30], [], mix hP, by kernel_rfl, ?_⟩
    conv => cbv
    refine ix_ri hA g1 j hx (by omega) ?_
    refine ld_ri hA g1 (by omega) (by omega) ?_
    intro v hv _
    rw [show x.toNat = j by omega] at hv
    conv => cbv
    refine ix_at hA g0 j hx (by omega) ?_
    refine ld_fld hA g0 j hx hxq 0 ?_
    rintro _ - ⟨b1, m1, d1, rfl, k1, k2⟩
    refine ⟨_, rfl, ?_⟩
    conv => cbv
    have hvo : v = q.op := by rw [hv]; simp only [List.getD_eq_getElem?_getD, List.getElem?_map, hxq]; rfl
    have q1 : cmp .neq v q.op = false := by rw [cmp_neq hA, hvo]; simp
    simp only [q1]
    conv => cbv
    refine ix_at hA g2 j hx (by omega) ?_
    refine ld_elem hA g2 j hx (x := q.data) (by rw [List.getElem?_map, hxq]; rfl) ?_
    rintro _ - ⟨b2, m2, d2, rfl, k3, k4⟩
    refine ⟨_, rfl, ?_⟩
    conv => cbv
    refine ix_at hA g0 j hx (by omega) ?_
    refine ld_fld hA g0 j hx hxq 1 ?_
    rintro _ - ⟨b5, m5, d5, rfl, k5, k6⟩
    refine ⟨_, rfl, ?_⟩
    conv => cbv
    have hk3 := k3.len
    have hk5 := k5.len
    refine (sameL hP R2 b2 b5 m2 m5 d2 d5 _ _ k3 k5 (by omega) (by omega)).callQ rfl ?_
    rintro _ ⟨rb, rfl, hrb⟩
    obtain rfl : rb = true := hrb.2 rfl
    conv => cbv
    refine ⟨⟨trivial, .refl _⟩, ?_⟩
    have q2 : bnot true = false := by rw [bnot_ hA]; rfl
    simp only [q2]
    conv => cbv
    refine ix_ri hA g3 j hx (by omega) ?_
    refine ld_ri hA g3 (by omega) (by omega) ?_
    intro u hu _
    rw [show x.toNat = j by omega] at hu
    conv => cbv
    refine br_f (by rw [cmp_neq hA, hu, hEE]; simp) ?_
    conv => cbv
    refine ⟨l.length - (j + 1), x + 1, by omega, ⟨⟨?_, rfl, rfl, rfl, rfl, rfl, rfl, trivial⟩, rfl, trivial, rfl, .refl _⟩, j + 1, by show x + 1 = ((j + 1 : Nat) : Int); omega, by omega, rfl⟩
    rw [add_i64 hA (by omega)]
    rfl
  rw [if_neg hnx] at hend
  refine br_f (by rw [ex, e0, cmp_lss hA]; simp; omega) ?_
  conv => cbv
  rcases hd with ⟨hb, hp2⟩ | ⟨hb, hp2, _⟩
  · refine br_f (by rw [hb, cmp_geq hA]; rfl) ?_
    conv => cbv
    have hEE : es.getD j 0 = ofN n := by rw [hend, o]; omega
    refine ⟨[0, 1, 2, 3, 4, 5, 6, 7, 8, 9, 10, 11, 12, 13, 14, 15, 16, 17, 18, 19, 20, 21, 22, 23, 24, 25, 26, 27, 28, 29, 30], [], mix hP, by kernel_rfl, ?_⟩
    conv => cbv
    refine ix_ri hA g1 j hx (by omega) ?_
    refine ld_ri hA g1 (by omega) (by omega) ?_
    intro v hv _
    rw [show x.toNat = j by omega] at hv
    conv => cbv
    refine ix_at hA g0 j hx (by omega) ?_
    refine ld_fld hA g0 j hx hxq 0 ?_
    rintro _ - ⟨b1, m1, d1, rfl, k1, k2⟩
    refine ⟨_, rfl, ?_⟩
    conv => cbv
    have hvo : v = q.op := by rw [hv]; simp only [List.getD_eq_getElem?_getD, List.getElem?_map, hxq]; rfl
    have q1 : cmp .neq v q.op = false := by rw [cmp_neq hA, hvo]; simp
    simp only [q1]
    conv => cbv
    refine ix_at hA g2 j hx (by omega) ?_
    refine ld_elem hA g2 j hx (x := q.data) (by rw [List.getElem?_map, hxq]; rfl) ?_
    rintro _ - ⟨b2, m2, d2, rfl, k3, k4⟩
    refine ⟨_, rfl, ?_⟩
    conv => cbv
    refine ix_at hA g0 j hx (by omega) ?_
    refine ld_fld hA g0 j hx hxq 1 ?_
    rintro _ - ⟨b5, m5, d5, rfl, k5, k6⟩
    refine ⟨_, rfl, ?_⟩
    conv => cbv
    have hk3 := k3.len
    have hk5 := k5.len
    refine (sameL hP R2 b2 b5 m2 m5 d2 d5 _ _ k3 k5 (by omega) (by omega)).callQ rfl ?_
    rintro _ ⟨rb, rfl, hrb⟩
    obtain rfl : rb = true := hrb.2 rfl
    conv => cbv
    refine ⟨⟨trivial, .refl _⟩, ?_⟩
    have q2 : bnot true = false := by rw [bnot_ hA]; rfl
    simp only [q2]
    conv => cbv
    refine ix_ri hA g3 j hx (by omega) ?_
    refine ld_ri hA g3 (by omega) (by omega) ?_
    intro u hu _
    rw [show x.toNat = j by omega] at hu
    conv => cbv
    refine br_f (by rw [cmp_neq hA, hu, hEE]; simp) ?_
    conv => cbv
    refine ⟨l.length - (j + 1), x + 1, by omega, ⟨⟨?_, rfl, rfl, rfl, rfl, rfl, rfl, trivial⟩, rfl, trivial, rfl, .refl _⟩, j + 1, by show x + 1 = ((j + 1 : Nat) : Int); omega, by omega, rfl⟩
    rw [add_i64 hA (by omega)]
    rfl
  · refine br_t (by rw [hb, cmp_geq hA]; simp) ?_
    conv => cbv
    have hEE : es.getD j 0 = bad := by rw [hend, hb]
    refine ⟨[0, 1, 2, 3, 4, 5, 6, 7, 8, 9, 10, 11, 12, 13, 14, 15, 16, 17, 18, 19, 20, 21, 22, 23, 24, 25, 26, 27, 28, 29, 30], [], mix hP, by kernel_rfl, ?_⟩
    conv => cbv
    refine ix_ri hA g1 j hx (by omega) ?_
    refine ld_ri hA g1 (by omega) (by omega) ?_
    intro v hv _
    rw [show x.toNat = j by omega] at hv
    conv => cbv
    refine ix_at hA g0 j hx (by omega) ?_
    refine ld_fld hA g0 j hx hxq 0 ?_
    rintro _ - ⟨b1, m1, d1, rfl, k1, k2⟩
    refine ⟨_, rfl, ?_⟩
    conv => cbv
    have hvo : v = q.op := by rw [hv]; simp only [List.getD_eq_getElem?_getD, List.getElem?_map, hxq]; rfl
    have q1 : cmp .neq v q.op = false := by rw [cmp_neq hA, hvo]; simp
    simp only [q1]
    conv => cbv
    refine ix_at hA g2 j hx (by omega) ?_
    refine ld_elem hA g2 j hx (x := q.data) (by rw [List.getElem?_map, hxq]; rfl) ?_
    rintro _ - ⟨b2, m2, d2, rfl, k3, k4⟩
    refine ⟨_, rfl, ?_⟩
    conv => cbv
    refine ix_at hA g0 j hx (by omega) ?_
    refine ld_fld hA g0 j hx hxq 1 ?_
    rintro _ - ⟨b5, m5, d5, rfl, k5, k6⟩
    refine ⟨_, rfl, ?_⟩
    conv => cbv
    have hk3 := k3.len
    have hk5 := k5.len
    refine (sameL hP R2 b2 b5 m2 m5 d2 d5 _ _ k3 k5 (by omega) (by omega)).callQ rfl ?_
    rintro _ ⟨rb, rfl, hrb⟩
    obtain rfl : rb = true := hrb.2 rfl
    conv => cbv
    refine ⟨⟨trivial, .refl _⟩, ?_⟩
    have q2 : bnot true = false := by rw [bnot_ hA]; rfl
    simp only [q2]
    conv => cbv
    refine ix_ri hA g3 j hx (by omega) ?_
    refine ld_ri hA g3 (by omega) (by omega) ?_
    intro u hu _
    rw [show x.toNat = j by omega] at hu
    conv => cbv
    refine br_f (by rw [cmp_neq hA, hu, hEE]; simp) ?_
    conv => cbv
    refine ⟨l.length - (j + 1), x + 1, by omega, ⟨⟨?_, rfl, rfl, rfl, rfl, rfl, rfl, trivial⟩, rfl, trivial, rfl, .refl _⟩, j + 1, by show x + 1 = ((j + 1 : Nat) : Int); omega, by omega, rfl⟩
    rw [add_i64 hA (by omega)]
    rfl
end Go.Proofs.Ytinbaelincgemaa.Tk
