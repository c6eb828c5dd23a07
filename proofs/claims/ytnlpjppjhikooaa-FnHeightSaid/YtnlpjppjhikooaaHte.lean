/- The height of a coinbase: the law. -/
import Derived.Test.YtnlpjppjhikooaaHtd
import Derived.Test.YtnlpjppjhikooaaTyhw
set_option linter.unusedSimpArgs false
set_option linter.unusedVariables false
namespace Go.Proofs.Ytnlpjppjhikooaa.Ht
open Go Go.Se Go.Proofs Go.Proofs.Ytnlpjppjhikooaa.Tyhw Go.Proofs.Ytnlpjppjhikooaa.Tx


theorem wf32 {x : Int} (h : (Lit.int .i32 x).wf = true) : -2147483648 ≤ x ∧ x ≤ 2147483647 := by
  simp [Lit.wf, IntKind.min, IntKind.max, IntKind.bits, IntKind.signed] at h
  omega

set_option maxRecDepth 100000 in
set_option maxHeartbeats 4000000 in
theorem law {P : Program} (hP : P = Try.prog) (R : RO) (h : Int) (w1 : (Lit.int .i32 h).wf = true) (q : Int) (w2 : (Lit.int .i32 q).wf = true) (b : Option Addr) (m c2 : Nat) (ys : List Int) (h2 : RI R .u8 b m ys) (hm : m ≤ 9223372036854775807) (hc : m ≤ c2) :
    RetP P 5 [.int .i32 h, .int .i32 q, .slice b m c2] R fun _ v => v = .bool true := by
  subst hP
  have hl := h2.len
  have r1 := wf32 w1
  have r2 := wf32 w2
  refine retP_vc (fz := [30, 32]) Try.func5 rfl (by decide) rfl ok5 ?_
  intro P bin cmp cnv neg com bnot beq ofN toN at_ sub_ scmp cat sget ssz ssub elem fld_ hP hA
  conv => cbv
  have om := ofN_ hA m
  have nt : bnot true = false := by rw [bnot_ hA]; rfl
  by_cases g1 : m ≤ 2147483647
  case neg =>
    refine br_t (by rw [om, cmp_gtr hA]; simp; omega) ?_
    conv => cbv
    intro ρ R'' _ _ _
    rfl
  refine br_f (by rw [om, cmp_gtr hA]; simp; omega) ?_
  conv => cbv
  by_cases gh : h < 0
  · have c1 : cmp .lss h 0 = true := by rw [cmp_lss hA]; simp; omega
    simp (maxSteps := 10000000) only [c1]
    conv => cbv
    intro ρ R'' _ _ _
    rfl
  have c1 : cmp .lss h 0 = false := by rw [cmp_lss hA]; simp; omega
  simp (maxSteps := 10000000) only [c1]
  conv => cbv
  by_cases gq : q < 0
  · have c3 : cmp .lss q 0 = true := by rw [cmp_lss hA]; simp; omega
    simp (maxSteps := 10000000) only [c3]
    conv => cbv
    intro ρ R'' _ _ _
    rfl
  have c3 : cmp .lss q 0 = false := by rw [cmp_lss hA]; simp; omega
  simp (maxSteps := 10000000) only [c3]
  conv => cbv
  by_cases g2 : m ≤ 80
  case neg =>
    refine br_t (by rw [om, cmp_gtr hA]; simp; omega) ?_
    conv => cbv
    intro ρ R'' _ _ _
    rfl
  refine br_f (by rw [om, cmp_gtr hA]; simp; omega) ?_
  conv => cbv
  obtain ⟨v, hv⟩ : ∃ v : Nat, h = v := ⟨h.toNat, by omega⟩
  have hlt : v < 2147483648 := by omega
  have hl5 := hs_len hlt
  refine (heightS hP R h v hv hlt).call rfl ?_
  intro a1 n1 k1 zs rs hb hs1 hz
  obtain ⟨hn1, hzs⟩ := hz
  conv => cbv
  refine ⟨n1, zs, _, _, _, m, _, hb.base, .refl _, h2.src, by omega, by omega, ?_⟩
  intro a' n' c' zs' hn' hz' hs'
  conv => cbv
  refine ⟨_, rfl, ?_⟩
  intro R1 b1 hR1 hb1
  conv => cbv
  refine ⟨_, rfl, ?_⟩
  intro R2 b2 hR2 hb2
  conv => cbv
  refine CallP.pub 0 rfl (fun R3 hR3 hp3 => ?_) ⟨_, by rw [hP]; exact Try.func16, by decide, rfl⟩
  have hzz : zs' = ints .u8 (hs v ++ ys) := by rw [hz', hzs, ints_app]
  have hnn : n' = (hs v ++ ys).length := by rw [List.length_append]; omega
  have hri : RI R3 .u8 a' n' (hs v ++ ys) := hp3.ri hnn hs' rfl hzz (fun x hx => by
    rcases List.mem_append.1 hx with hx | hx
    · exact hs_wf hlt x hx
    · exact h2.wf x hx)
  have hcap : n' ≤ c' := hp3.cap_ hs'
  have hmx : n' ≤ maxLen := by unfold maxLen; omega
  have ht : TxAt R3 [.int .i32 2, .slice (some ⟨b1, 0, none⟩) 1 1, .slice (some ⟨b2, 0, none⟩) 1 1, .int .u32 0] ⟨2, [⟨List.replicate 32 0, 4294967295, hs v ++ ys, [], 0⟩], [⟨1, []⟩], 0⟩ := by
    refine ⟨_, _, _, _, _, _, rfl, rfl, rfl, ⟨rfl, by decide, by decide, fun i x hx => ?_⟩, ⟨rfl, by decide, by decide, fun i x hx => ?_⟩⟩
    · cases i with
      | succ i => cases hx
      | zero =>
        cases hx
        refine ⟨⟨b1, 0, none⟩, ints .u8 (List.replicate 32 0) ++ [.int .u32 4294967295, .slice a' n' c', .slice none 0 0, .int .u32 0], rfl, rfl, ?_, a', n', c', none, 0, 0, rfl, rfl, ?_, rfl, rfl, hri, ⟨hmx, hcap⟩, LAt.nil⟩
        · have e : (⟨b1, 0, none⟩ : Addr).add (0 * 36) = ⟨b1, 0, none⟩ := by simp [Addr.add]
          rw [e]
          exact CellsAt.blk (hR3 _ _ (hR2 _ _ hb1))
        · intro x hx
          rw [List.eq_of_mem_replicate hx]
          decide
    · cases i with
      | succ i => cases hx
      | zero =>
        cases hx
        refine ⟨⟨b2, 0, none⟩, [.int .i64 1, .slice none 0 0], rfl, rfl, ?_, none, 0, 0, rfl, by decide, RI.nil, by decide, by decide⟩
        have e : (⟨b2, 0, none⟩ : Addr).add (0 * 2) = ⟨b2, 0, none⟩ := by simp [Addr.add]
        rw [e]
        exact CellsAt.blk (hR3 _ _ hb2)
  have hsz : tsz ⟨2, [⟨List.replicate 32 0, 4294967295, hs v ++ ys, [], 0⟩], [⟨1, []⟩], 0⟩ ≤ 1000000 := by
    simp [tsz, isz, osz]
    omega
  refine (heightP hP R3 _ _ ht hsz _ rfl h v hv hlt ys rfl (by omega)).callQ rfl ?_
  rintro _ rfl
  conv => cbv
  have e1 : cmp .eql 0 0 = true := by rw [cmp_eql hA]; rfl
  have e2 : cmp .eql h h = true := by rw [cmp_eql hA]; simp
  simp (maxSteps := 10000000) only [e1]
  conv => cbv
  simp (maxSteps := 10000000) only [e2]
  conv => cbv
  refine (faultP hP R3 _ _ ht hsz _ rfl h q v hv hlt ys rfl (by omega)).callQ rfl ?_
  rintro _ ⟨k, rfl, hk⟩
  conv => cbv
  have e3 : beq (cmp .eql k 0) (cmp .eql q h) = true := by
    rw [cmp_eql hA, cmp_eql hA, beq_ hA]
    by_cases hq : q = h
    · rw [hk.2 hq, hq]; simp
    · have hk0 : ¬ k = 0 := fun e => hq (hk.1 e)
      show ((decide (k = 0)) == (decide (q = h))) = true
      rw [decide_eq_false hk0, decide_eq_false hq]
      rfl
  simp (maxSteps := 10000000) only [e3]
  conv => cbv
  intro ρ R'' _ _ _
  rfl
end Go.Proofs.Ytnlpjppjhikooaa.Ht
