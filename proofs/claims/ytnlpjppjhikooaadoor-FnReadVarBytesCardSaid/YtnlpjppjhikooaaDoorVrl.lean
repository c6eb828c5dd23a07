/- Numbers of variable length: the law. -/
import Derived.Test.YtnlpjppjhikooaaDoorVrc
import Derived.Test.YtnlpjppjhikooaaDoorTyvt
import Derived.ChangeSlices
set_option linter.unusedSimpArgs false
set_option linter.unusedVariables false
namespace Go.Proofs.YtnlpjppjhikooaaDoor.Vr
open Go Go.Se Go.Proofs Go.ChangeShapes Go.Proofs.YtnlpjppjhikooaaDoor.Tyvt


set_option maxRecDepth 100000 in
theorem sameL {P : Program} (hP : P = Tryd.prog) (R : RO) (a b : Option Addr) (n m cap c2 : Nat) (xs ys : List Int) (h : RI R .u8 a n xs) (h2 : RI R .u8 b m ys) (hn : n ≤ 1000000000000) (hm : m ≤ 1000000000000) :
    RetP P 11 [.slice a n cap, .slice b m c2] R fun _ v => ∃ r, v = .bool r ∧ (r = true ↔ xs = ys) := by
  subst hP
  have hl := h.len
  have hl2 := h2.len
  refine retP_vc (fz := []) Tryd.func11 rfl (by decide) rfl ok11 ?_
  intro P bin cmp cnv neg com bnot beq ofN toN at_ sub_ scmp cat sget ssz ssub elem fld_ hP hA
  conv => cbv
  have o := ofN_ hA n
  have o2 := ofN_ hA m
  by_cases h0 : n = m
  case neg =>
    refine br_t (by rw [o, o2, cmp_neq hA]; simp; omega) ?_
    conv => cbv
    intro ρ R'' _ _ _
    exact ⟨_, rfl, by simp; intro hx; rw [hx] at hl; omega⟩
  refine br_f (by rw [o, o2, cmp_neq hA]; simp; omega) ?_
  conv => cbv
  refine ⟨Int, fun x => ⟨[(5, .v (.int .i64 x)), (0, .v (.slice a n cap)), (1, .v (.slice b m c2))], R, [], 0, []⟩,
    fun k x => ∃ i : Nat, x = i ∧ i ≤ n ∧ k = n - i ∧ xs.take i = ys.take i, ⟨n, 0, ⟨⟨rfl, rfl, rfl, trivial⟩, rfl, trivial, rfl, .refl _⟩, 0, rfl, by omega, rfl, rfl⟩, ?_⟩
  rintro k x ⟨i, hx, hi, hk, ht⟩
  conv => cbv
  by_cases hlt : i < n
  · refine br_t (by rw [o, cmp_lss hA]; simp; omega) ?_
    conv => cbv
    refine ⟨[0, 1, 2, 3, 4, 5, 6, 7, 8], [], mix hP, by kernel_rfl, ?_⟩
    conv => cbv
    refine ix_u8 hA h i hx (by omega) ?_
    refine ld_u8 hA h (by omega) (by omega) ?_
    intro c hc c0 c1
    conv => cbv
    refine ix_u8 hA h2 i hx (by omega) ?_
    refine ld_u8 hA h2 (by omega) (by omega) ?_
    intro d hd d0 d1
    conv => cbv
    have hi1 : i < xs.length := by omega
    have hi2 : i < ys.length := by omega
    rw [hx, Int.toNat_natCast, List.getD_eq_getElem?_getD, List.getElem?_eq_getElem hi1] at hc
    rw [hx, Int.toNat_natCast, List.getD_eq_getElem?_getD, List.getElem?_eq_getElem hi2] at hd
    simp only [Option.getD_some] at hc hd
    by_cases he : c = d
    · refine br_f (by rw [cmp_neq hA, he]; simp) ?_
      conv => cbv
      refine ⟨n - (i + 1), x + 1, by omega, ⟨⟨?_, rfl, rfl, trivial⟩, rfl, trivial, rfl, .refl _⟩, i + 1, by show x + 1 = ((i + 1 : Nat) : Int); omega, by omega, rfl, ?_⟩
      · rw [add_i64 hA (by omega)]; rfl
      · rw [List.take_add_one, List.take_add_one, ht, List.getElem?_eq_getElem hi1, List.getElem?_eq_getElem hi2, ← hc, ← hd, he]
    · refine br_t (by rw [cmp_neq hA]; simpa using he) ?_
      conv => cbv
      intro ρ R'' _ _ _
      refine ⟨_, rfl, by simp; intro hxy; subst hxy; exact he (by rw [hc, hd])⟩
  · refine br_f (by rw [o, cmp_lss hA]; simp; omega) ?_
    conv => cbv
    intro ρ R'' _ _ _
    refine ⟨_, rfl, ?_⟩
    have : i = n := by omega
    subst this
    rw [List.take_of_length_le (by omega), List.take_of_length_le (by omega)] at ht
    simp [ht]

theorem le_wf (k v : Nat) : ∀ x ∈ le k v, (Lit.int .u8 x).wf = true := by
  intro x hx
  simp only [le, List.mem_map, List.mem_range] at hx
  obtain ⟨i, _, rfl⟩ := hx
  have : v / 256 ^ i % 256 < 256 := Nat.mod_lt _ (by decide)
  simp [Lit.wf, IntKind.min, IntKind.max, IntKind.bits, IntKind.signed]
  omega

theorem wf8 {x : Int} (h : 0 ≤ x ∧ x ≤ 255) : (Lit.int .u8 x).wf = true := by
  simp [Lit.wf, IntKind.min, IntKind.max, IntKind.bits, IntKind.signed]
  omega

theorem vi_wf (v : Nat) : ∀ x ∈ vi v, (Lit.int .u8 x).wf = true := by
  intro x hx
  unfold vi at hx
  split at hx
  · simp at hx; subst hx; exact wf8 (by omega)
  split at hx
  · rcases List.mem_cons.1 hx with rfl | hx
    · decide
    · exact le_wf _ _ x hx
  split at hx
  · rcases List.mem_cons.1 hx with rfl | hx
    · decide
    · exact le_wf _ _ x hx
  · rcases List.mem_cons.1 hx with rfl | hx
    · decide
    · exact le_wf _ _ x hx

theorem wf_u64 {x : Int} (h : (Lit.int .u64 x).wf = true) : 0 ≤ x ∧ x ≤ 18446744073709551615 := by
  simp [Lit.wf, IntKind.min, IntKind.max, IntKind.bits, IntKind.signed] at h
  omega


set_option maxRecDepth 100000 in
theorem law {P : Program} (hP : P = Tryd.prog) (R : RO) (vv : Int) (hw : (Lit.int .u64 vv).wf = true) (b : Option Addr) (m c2 : Nat) (ys : List Int) (h2 : RI R .u8 b m ys) (hm : m ≤ 9223372036854775807) :
    RetP P 5 [.int .u64 vv, .slice b m c2] R fun _ v => v = .bool true := by
  subst hP
  obtain ⟨w0, w1⟩ := wf_u64 hw
  obtain ⟨v, rfl⟩ : ∃ v : Nat, vv = v := ⟨vv.toNat, by omega⟩
  have hv : v < 18446744073709551616 := by omega
  obtain ⟨vv, hvv⟩ : ∃ vv : Int, vv = v := ⟨_, rfl⟩
  rw [← hvv]
  refine retP_vc (fz := []) Tryd.func5 rfl (by decide) rfl ok5 ?_
  intro P bin cmp cnv neg com bnot beq ofN toN at_ sub_ scmp cat sget ssz ssub elem fld_ hP hA
  conv => cbv
  have om := ofN_ hA m
  by_cases g1 : m ≤ 2147483647
  case neg =>
    refine br_t (by rw [om, cmp_gtr hA]; simp; omega) ?_
    conv => cbv
    intro ρ R'' _ _ _
    rfl
  refine br_f (by rw [om, cmp_gtr hA]; simp; omega) ?_
  conv => cbv
  by_cases g2 : m ≤ 100000
  case neg =>
    refine br_t (by rw [om, cmp_gtr hA]; simp; omega) ?_
    conv => cbv
    intro ρ R'' _ _ _
    rfl
  refine br_f (by rw [om, cmp_gtr hA]; simp; omega) ?_
  conv => cbv
  have hpos : 1 ≤ vlen v := by unfold vlen; repeat' split <;> try omega
  have hl9 := vlen_le v
  have hvl := vi_len v
  refine (writeP hP R vv v hvv hv).call rfl ?_
  intro a n c zs rs' hb hs hz
  obtain ⟨hn, hz⟩ := hz
  rw [hvl] at hn
  rcases hb with ⟨_, h0, _⟩ | rfl
  · omega
  obtain ⟨a, rfl⟩ := Option.isSome_iff_exists.1 (hs (by omega))
  conv => cbv
  refine (varInt hP R vv v hvv hv).call rfl ?_
  intro a1 n1 c1 zs1 rs1 hb1 hs1 hz1
  obtain ⟨hn1, hz1⟩ := hz1
  rw [hvl] at hn1
  rcases hb1 with ⟨_, h0, _⟩ | rfl
  · omega
  obtain ⟨a1, rfl⟩ := Option.isSome_iff_exists.1 (hs1 (by omega))
  conv => cbv
  refine CallP.pub 0 rfl (fun R1 hR1 hp1 => ?_) ⟨_, by rw [hP]; exact Tryd.func11, by decide, rfl⟩
  have r1 := ri_pub hp1 rfl (by show n1 = _; rw [hn1, hvl]) rfl hz1 (vi_wf v)
  refine CallP.pub 0 rfl (fun R2 hR2 hp2 => ?_) ⟨_, by rw [hP]; exact Tryd.func11, by decide, rfl⟩
  have r2 := ri_pub hp2 rfl (by show n = _; rw [hn, hvl]) rfl hz (vi_wf v)
  refine (sameL hP R2 (some a) (some a1) n n1 c c1 (vi v) (vi v) r2 (r1.le hR2) (by omega) (by omega)).callQ rfl ?_
  rintro _ ⟨r, rfl, hr⟩
  obtain rfl : r = true := hr.2 rfl
  conv => cbv
  have h2' := (h2.le hR1).le hR2
  have nt : bnot true = false := by rw [bnot_ hA]; rfl
  simp (maxSteps := 10000000) only [nt]
  conv => cbv
  refine (lenP hP R2 vv v hvv hv).callQ rfl ?_
  rintro _ hx
  obtain ⟨lv, hlv⟩ : ∃ l : Int, l = (vlen v : Nat) := ⟨_, rfl⟩
  rw [← hlv] at hx
  subst hx
  conv => cbv
  have on : ofN n = lv := by rw [ofN_ hA, hlv, hn]
  have cn : cmp .neq lv lv = false := by rw [cmp_neq hA]; simp
  simp (maxSteps := 10000000) only [on, cn]
  conv => cbv
  refine ⟨0, [], _, _, _, n, _, .own 0 0 _ [] rfl rfl rfl rfl (by decide), .refl _, r2.src, by omega, by omega, ?_⟩
  intro a3 n3 c3 z3 hn3 hz3 hs3
  conv => cbv
  refine ⟨n3, z3, _, _, _, m, _, (Base1.row (rest := [])).base, .refl _, h2'.src, by omega, by omega, ?_⟩
  intro a4 n4 c4 z4 hn4 hz4 hs4
  obtain ⟨a4, rfl⟩ := Option.isSome_iff_exists.1 (hs4 (by omega))
  conv => cbv
  refine CallP.pub 0 rfl (fun R3 hR3 hp3 => ?_) ⟨_, by rw [hP]; exact Tryd.func18, by decide, rfl⟩
  have hl2 := h2.len
  have ez : z4 = ints .u8 (vi v ++ ys) := by
    rw [hz4, hz3, ← ints_app]
    rfl
  have wy : ∀ x ∈ vi v ++ ys, (Lit.int .u8 x).wf = true := fun x hx => (List.mem_append.1 hx).elim (vi_wf v x) (h2.wf x)
  have r3 := ri_pub hp3 rfl (by show n4 = _; rw [hn4, hn3, List.length_append, hvl]; omega) rfl ez wy
  have cap3 := hp3.cap_ hs4
  refine (readP hP R3 v hv a4 n4 c4 ys r3 (by omega) cap3).callQ rfl ?_
  rintro _ hx
  rw [← hlv, ← hvv] at hx
  subst hx
  conv => cbv
  have q1 : cmp .eql 0 0 = true := by rw [cmp_eql hA]; rfl
  have q2 : cmp .eql vv vv = true := by rw [cmp_eql hA]; simp
  have q3 : cmp .eql lv lv = true := by rw [cmp_eql hA]; simp
  simp (maxSteps := 10000000) only [q1]
  conv => cbv
  simp (maxSteps := 10000000) only [q2]
  conv => cbv
  simp (maxSteps := 10000000) only [on, q3]
  conv => cbv
  intro ρ R'' _ _ _
  rfl
end Go.Proofs.YtnlpjppjhikooaaDoor.Vr
