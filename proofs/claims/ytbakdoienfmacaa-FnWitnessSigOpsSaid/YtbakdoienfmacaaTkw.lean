/- The checks of a witness: the law. -/
import Derived.Test.YtbakdoienfmacaaTkv
import Derived.ChangeSlices
set_option linter.unusedSimpArgs false
set_option linter.unusedVariables false
namespace Go.Proofs.Ytbakdoienfmacaa.Tk
open Go Go.Se Go.Proofs Go.ChangeShapes Go.Proofs.Ytbakdoienfmacaa.Tytw

section
variable {H : Type} {enc : TypeId × Value → H} {w : World} {base : Nat} {sp : Nat → Bool} {held : Bool} {fuel : Nat} {cs : List Value} {x : DataW H × List MemPlace}

theorem bytes_of (h : DataW.trod enc Try.prog w base sp held fuel 22 cs = some x) : ∃ xs, BAt (fun b => w.heap[b]?) cs xs := by
  rcases open_ints Try.underlying22 Try.underlying5 (by kernel_rfl) h with ⟨hcs, _⟩ | ⟨a, l, c, zs, hcs, _, hl, hm, hz, _, hcell, hwz⟩
  · exact ⟨[], none, 0, 0, hcs, RI.nil, Nat.zero_le _, Nat.zero_le _⟩
  · refine ⟨zs.take l, some a, l, c, hcs, RI.of_cells hcell hwz ?_, Nat.le_trans hl hm, hl⟩
    rw [hz]; split <;> omega

theorem lists_of (h : DataW.trod enc Try.prog w base sp held fuel 28 cs = some x) : ∃ a n c xs, cs = [.slice a n c] ∧ LAt (fun b => w.heap[b]?) 1 BAt a n c xs := by
  obtain ⟨a, n, c, xs, h1, h2⟩ := LAt.of_trod Try.underlying28 h (p := BAt) (fun _ _ _ hx _ => bytes_of hx)
  rw [cellsOf_of ty22] at h2
  exact ⟨a, n, c, xs, h1, h2⟩
end

/-- Lists of bytes that a slice holds. -/
def Lists (R : RO) (a : Option Addr) (n c : Nat) (xs : List (List Int)) : Prop := LAt R 1 BAt a n c xs


set_option maxRecDepth 100000 in
theorem fits5 {P : Program} (hP : P = Try.prog) (R : RO) (w : Option Addr) (m d : Nat) (wit : List (List Int)) (hw : LAt R 1 BAt w m d wit) : RetP P 8 [.slice w m d] R fun _ v => ∃ r, v = .bool r := by
  subst hP
  have wl := hw.len
  have hmx := hw.mx
  unfold maxLen at hmx
  refine retP_vc (fz := []) Try.func8 rfl (by decide) rfl ok8 ?_
  intro P bin cmp cnv neg com bnot beq ofN toN at_ sub_ scmp cat sget ssz ssub elem fld_ hP hA
  conv => cbv
  have o := ofN_ hA m
  by_cases h1 : m > 2147483647
  · refine br_t (by rw [o, cmp_gtr hA]; simp; omega) ?_
    conv => cbv
    intro ρ R'' _ _ _
    exact ⟨_, rfl⟩
  refine br_f (by rw [o, cmp_gtr hA]; simp; omega) ?_
  conv => cbv
  refine ⟨Int, fun x => ⟨[(10, .v (.int .i64 x)), (8, .v (.slice w m d)), (9, .v (.int .i64 (ofN m)))], R, [], 0, []⟩,
    fun k x => ∃ j : Nat, x = j ∧ j ≤ m ∧ k = m - j,
    ⟨m, 0, ⟨⟨rfl, rfl, rfl, trivial⟩, rfl, trivial, rfl, .refl _⟩, 0, rfl, by omega, rfl⟩, ?_⟩
  rintro k i ⟨j, hi, hj, hk⟩
  conv => cbv
  by_cases hlt : j < m
  case neg =>
    refine br_f (by rw [o, cmp_lss hA]; simp; omega) ?_
    conv => cbv
    intro ρ R'' _ _ _
    exact ⟨_, rfl⟩
  refine br_t (by rw [o, cmp_lss hA]; simp; omega) ?_
  conv => cbv
  obtain ⟨t, hxt⟩ : ∃ q, wit[j]? = some q := ⟨_, List.getElem?_eq_getElem (by omega)⟩
  refine ix_at hA hw j hi (by omega) ?_
  refine ld_elem hA hw j hi hxt ?_
  rintro _ - ⟨b3, m3, d3, rfl, k3, k4, k5⟩
  refine ⟨_, rfl, ?_⟩
  conv => cbv
  refine br_of (fun _ => ?_) (fun _ => ?_)
  · conv => cbv
    intro ρ R'' _ _ _
    exact ⟨_, rfl⟩
  · conv => cbv
    refine ⟨m - (j + 1), i + 1, by omega, ⟨⟨?_, rfl, rfl, trivial⟩, rfl, trivial, rfl, .refl _⟩, j + 1, by show i + 1 = ((j + 1 : Nat) : Int); omega, by omega, rfl⟩
    rw [add_i64 hA (by omega)]
    rfl

set_option maxRecDepth 100000 in
theorem more {P : Program} (hP : P = Try.prog) (R : RO) (a b : Int) (h0 : 0 ≤ a) (h1 : 0 ≤ b) : RetP P 9 [.int .i64 a, .int .i64 b] R fun _ v => ∃ r, v = .int .i64 r ∧ 0 ≤ r ∧ (r ≤ 100000 → r = a + b) := by
  subst hP
  refine retP_vc (fz := []) Try.func9 rfl (by decide) rfl ok9 ?_
  intro P bin cmp cnv neg com bnot beq ofN toN at_ sub_ scmp cat sget ssz ssub elem fld_ hP hA
  conv => cbv
  by_cases g1 : a > 100000
  · have q1 : cmp .gtr a 100000 = true := by rw [cmp_gtr hA]; simp; omega
    simp only [q1]
    conv => cbv
    intro ρ R'' _ _ _
    exact ⟨_, rfl, by decide, fun h => absurd h (by decide)⟩
  have q1 : cmp .gtr a 100000 = false := by rw [cmp_gtr hA]; simp; omega
  simp only [q1]
  conv => cbv
  by_cases g2 : b > 100000
  · have q2 : cmp .gtr b 100000 = true := by rw [cmp_gtr hA]; simp; omega
    simp only [q2]
    conv => cbv
    intro ρ R'' _ _ _
    exact ⟨_, rfl, by decide, fun h => absurd h (by decide)⟩
  have q2 : cmp .gtr b 100000 = false := by rw [cmp_gtr hA]; simp; omega
  simp only [q2]
  conv => cbv
  have e : bin .add .i64 a b = a + b := add_i64 hA (by omega)
  refine br_of (fun _ => ?_) (fun _ => ?_)
  · conv => cbv
    intro ρ R'' _ _ _
    exact ⟨_, rfl, by decide, fun h => absurd h (by decide)⟩
  · conv => cbv
    intro ρ R'' _ _ _
    exact ⟨_, rfl, by rw [e]; omega, fun _ => e⟩


set_option maxRecDepth 100000 in
set_option maxHeartbeats 1000000 in
theorem lawWit (R : RO) (a : Option Addr) (n c : Nat) (sig : List Int) (h : RI R .u8 a n sig) (hmx : n ≤ 9223372036854775807) (hc : n ≤ c) (a2 : Option Addr) (n2 c2 : Nat) (pk : List Int) (h2 : RI R .u8 a2 n2 pk) (hmx2 : n2 ≤ 9223372036854775807) (hc2 : n2 ≤ c2)
    (w : Option Addr) (m d : Nat) (wit : List (List Int)) (hw : LAt R 1 BAt w m d wit) : RetP Try.prog 4 [.slice a n c, .slice a2 n2 c2, .slice w m d] R fun _ v => v = .bool true := by
  have hl := h.len
  have hl2 := h2.len
  have wl := hw.len
  have wmx := hw.mx
  unfold maxLen at wmx
  refine retP_vc (fz := []) Try.func4 rfl (by decide) rfl ok4 ?_
  intro P bin cmp cnv neg com bnot beq ofN toN at_ sub_ scmp cat sget ssz ssub elem fld_ hP hA
  conv => cbv
  have o := ofN_ hA n
  have o2 := ofN_ hA n2
  have o3 := ofN_ hA m
  have nt : bnot true = false := by rw [bnot_ hA]; rfl
  have nf : bnot false = true := by rw [bnot_ hA]; rfl
  by_cases h1 : n > 2147483647
  · have q1 : cmp .gtr (ofN n) 2147483647 = true := by rw [o, cmp_gtr hA]; simp; omega
    simp only [q1]
    conv => cbv
    intro ρ R'' _ _ _
    rfl
  have q1 : cmp .gtr (ofN n) 2147483647 = false := by rw [o, cmp_gtr hA]; simp; omega
  simp only [q1]
  conv => cbv
  by_cases h1' : n2 > 2147483647
  · have q2 : cmp .gtr (ofN n2) 2147483647 = true := by rw [o2, cmp_gtr hA]; simp; omega
    simp only [q2]
    conv => cbv
    intro ρ R'' _ _ _
    rfl
  have q2 : cmp .gtr (ofN n2) 2147483647 = false := by rw [o2, cmp_gtr hA]; simp; omega
  simp only [q2]
  conv => cbv
  refine (fits5 hP R w m d wit hw).callQ rfl ?_
  rintro _ ⟨r, rfl⟩
  conv => cbv
  refine br_of (fun _ => ?_) (fun _ => ?_)
  · conv => cbv
    intro ρ R'' _ _ _
    rfl
  conv => cbv
  refine (more hP R 0 (ofN n) (by decide) (by omega)).callQ rfl ?_
  rintro _ ⟨s1, rfl, hs1, hs1'⟩
  conv => cbv
  refine (more hP R s1 (ofN n2) hs1 (by omega)).callQ rfl ?_
  rintro _ ⟨s2, rfl, hs2, hs2'⟩
  conv => cbv
  refine ⟨Int × Int, fun x => ⟨[(8, .v (.int .i64 x.1)), (7, .v (.int .i64 x.2)), (0, .v (.slice a n c)), (1, .v (.slice a2 n2 c2)), (2, .v (.slice w m d))], R, [], 0, []⟩,
    fun k x => ∃ j : Nat, x.1 = j ∧ j ≤ m ∧ k = m - j ∧ 0 ≤ x.2 ∧ (x.2 ≤ 100000 → n ≤ 100000 ∧ n2 ≤ 100000 ∧ (j : Int) ≤ x.2 ∧ ∀ t ∈ wit.take j, t.length ≤ 100000),
    ⟨m, (0, s2), ⟨⟨rfl, rfl, rfl, rfl, rfl, trivial⟩, rfl, trivial, rfl, .refl _⟩, 0, rfl, by omega, rfl, hs2, fun hx => ?_⟩, ?_⟩
  · have := hs2' hx
    have := hs1' (by omega)
    simp only at hx
    refine ⟨by omega, by omega, by simpa using hs2, fun t ht => by simp at ht⟩
  rintro k ⟨i, N⟩ ⟨j, hi, hj, hk, hN, hall⟩
  simp only at hi hN hall
  conv => cbv
  by_cases hlt : j < m
  case neg =>
    have q3 : cmp .lss i (ofN m) = false := by rw [o3, cmp_lss hA]; simp; omega
    simp only [q3]
    conv => cbv
    by_cases hN1 : N > 100000
    · refine br_t (by rw [cmp_gtr hA]; simp; omega) ?_
      conv => cbv
      intro ρ R'' _ _ _
      rfl
    refine br_f (by rw [cmp_gtr hA]; simp; omega) ?_
    conv => cbv
    obtain ⟨b1, b2, b3, b4⟩ := hall (by omega)
    rw [List.take_of_length_le (by omega)] at b4
    refine callP_in (fz := []) hP hA Try.func10 rfl (by decide) rfl ok10 (by simp [labL, lab]) ?_
    conv => cbv
    refine (witSigOpsP hP R a n c sig h b1 hc a2 n2 c2 pk h2 b2 hc2 w m d wit hw b4 (by omega)).callQ rfl ?_
    rintro _ ⟨k1, rfl, hk1⟩
    conv => cbv
    refine (witSigOpsS hP R a n c sig h b1 hc a2 n2 c2 pk h2 b2 hc2 w m d wit hw b4 (by omega)).callQ rfl ?_
    rintro _ ⟨k2, rfl, hk2⟩
    obtain rfl := hk1.one hk2
    conv => cbv
    intro ρ R'' _ _ _
    show Value.bool (cmp .eql k1 k1) = .bool true
    rw [cmp_eql hA]
    simp
  have q3 : cmp .lss i (ofN m) = true := by rw [o3, cmp_lss hA]; simp; omega
  simp only [q3]
  conv => cbv
  by_cases hN1 : N ≤ 100000
  case neg =>
    refine br_f (by rw [cmp_leq hA]; simp; omega) ?_
    conv => cbv
    refine br_t (by rw [cmp_gtr hA]; simp; omega) ?_
    conv => cbv
    intro ρ R'' _ _ _
    rfl
  refine br_t (by rw [cmp_leq hA]; simp; omega) ?_
  conv => cbv
  obtain ⟨b1, b2, b3, b4⟩ := hall hN1
  obtain ⟨t, hxt⟩ : ∃ q, wit[j]? = some q := ⟨_, List.getElem?_eq_getElem (by omega)⟩
  refine ⟨[0, 2, 3, 4, 5, 6, 1, 7, 8], [7], mix hP, by kernel_rfl, ?_⟩
  conv => cbv
  refine ix_at hA hw j hi (by omega) ?_
  refine ld_elem hA hw j hi hxt ?_
  rintro _ - ⟨b3, m3, d3, rfl, k3, k4, k5⟩
  refine ⟨_, rfl, ?_⟩
  conv => cbv
  have ot := ofN_ hA m3
  have k3l := k3.len
  refine (more hP R N 1 hN (by decide)).callQ rfl ?_
  rintro _ ⟨s3, rfl, hs3, hs3'⟩
  conv => cbv
  refine ⟨⟨trivial, .refl _⟩, ?_⟩
  refine (more hP R s3 (ofN m3) hs3 (by omega)).callQ rfl ?_
  rintro _ ⟨s4, rfl, hs4, hs4'⟩
  conv => cbv
  refine ⟨m - (j + 1), (i + 1, s4), by omega, ⟨⟨?_, rfl, rfl, rfl, rfl, trivial⟩, rfl, trivial, rfl, .refl _⟩, j + 1, by show i + 1 = ((j + 1 : Nat) : Int); omega, by omega, rfl, hs4, fun hx => ?_⟩
  · rw [add_i64 hA (by omega)]
    rfl
  · simp only at hx
    have e4 := hs4' hx
    have e3 := hs3' (by omega)
    refine ⟨b1, b2, by show ((j + 1 : Nat) : Int) ≤ s4; omega, fun u hu => ?_⟩
    rw [List.take_add_one, hxt] at hu
    rcases List.mem_append.1 hu with hu | hu
    · exact b4 u hu
    · simp at hu
      rw [hu]
      omega
end Go.Proofs.Ytbakdoienfmacaa.Tk
