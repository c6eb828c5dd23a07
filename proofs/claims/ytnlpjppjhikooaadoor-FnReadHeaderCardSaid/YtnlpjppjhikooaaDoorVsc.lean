/- Bytes with their number ahead: the reference. -/
import Derived.Test.YtnlpjppjhikooaaDoorVsb
set_option linter.unusedSimpArgs false
set_option linter.unusedVariables false
namespace Go.Proofs.YtnlpjppjhikooaaDoor.Vs
open Go Go.Se Go.Proofs Go.Proofs.YtnlpjppjhikooaaDoor.Tyvu

/-- Bytes with their number at the front, and how many bytes that is. -/
def pb (xs : List Int) : Option (List Int × Nat) := match pv xs with
  | none => none
  | some (v, u) => if v ≤ xs.length - u then some ((xs.drop u).take v.toNat, u + v.toNat) else none

theorem ri_pub {R : RO} {k : IntKind} {r : Row} {xs : List Int} (h : PubRow R r) (hs : r.n ≠ 0 → r.a.isSome = true) (hn : r.n = xs.length) (h1 : r.sz = 1) (hx : r.xs = ints k xs) (hw : ∀ x ∈ xs, (Lit.int k x).wf = true) : RI R k r.a r.n xs := by
  by_cases h0 : r.n = 0
  · refine ⟨hn, fun i h0' hi => ?_, hw⟩
    omega
  obtain ⟨ad, ha⟩ := Option.isSome_iff_exists.1 (hs h0)
  obtain ⟨e1, cur, e2, e3, e4, e5⟩ := h ad ha
  refine ⟨hn, fun i h0 hi => ⟨by rw [ha]; rfl, ?_⟩, hw⟩
  rw [ha]
  show rcell R (ad.add (i.toNat * 1)) = _
  rw [e1, cell_add]
  simp only [rcell, e2]
  have := ints_get (k := k) (j := i.toNat) (xs := xs) (by omega)
  rw [← hx, ← e5, h1, Nat.mul_one, List.getElem?_take, if_pos (by omega)] at this
  simpa using this

theorem pv_len {xs : List Int} {v : Int} {u : Nat} (h : pv xs = some (v, u)) : 1 ≤ u ∧ u ≤ xs.length := by
  cases xs with
  | nil => cases h
  | cons d t =>
    have hx : ∀ k m, ext t k m = some (v, u) → 1 ≤ u ∧ u ≤ (d :: t).length := fun k m he => by
      unfold ext at he
      split at he
      · cases he
      split at he
      · cases he
      simp only [Option.some.injEq, Prod.mk.injEq] at he
      simp
      omega
    simp only [pv] at h
    split at h
    · exact hx _ _ h
    split at h
    · exact hx _ _ h
    split at h
    · exact hx _ _ h
    simp only [Option.some.injEq, Prod.mk.injEq] at h
    simp
    omega

theorem pow8 {n : Nat} (h : n ≤ 8) : (256 : Int) ^ n ≤ 18446744073709551616 := by
  have : n = 0 ∨ n = 1 ∨ n = 2 ∨ n = 3 ∨ n = 4 ∨ n = 5 ∨ n = 6 ∨ n = 7 ∨ n = 8 := by omega
  rcases this with rfl | rfl | rfl | rfl | rfl | rfl | rfl | rfl | rfl <;> decide

theorem pv_nn {xs : List Int} (hb : ∀ x ∈ xs, 0 ≤ x ∧ x ≤ 255) {v : Int} {u : Nat} (h : pv xs = some (v, u)) : 0 ≤ v ∧ v < 18446744073709551616 := by
  cases xs with
  | nil => cases h
  | cons d t =>
    have hx : ∀ k m, k ≤ 8 → ext t k m = some (v, u) → 0 ≤ v ∧ v < 18446744073709551616 := fun k m hk he => by
      unfold ext at he
      split at he
      · cases he
      split at he
      · cases he
      simp only [Option.some.injEq, Prod.mk.injEq] at he
      have h1 := lv_lt (t.take k) fun x hx => hb x (List.mem_cons_of_mem _ (List.mem_of_mem_take hx))
      have h2 : (256 : Int) ^ (t.take k).length ≤ 18446744073709551616 := pow8 (by rw [List.length_take]; omega)
      omega
    have h0 := hb d (List.mem_cons_self ..)
    simp only [pv] at h
    split at h
    · exact hx _ _ (by decide) h
    split at h
    · exact hx _ _ (by decide) h
    split at h
    · exact hx _ _ (by decide) h
    simp only [Option.some.injEq, Prod.mk.injEq] at h
    omega

def SOut (xs : List Int) (R' : RO) (r : Value) : Prop :=
  (pb xs = none ∧ ∃ v1 v2, r = .tuple #[v1, v2, .bool false]) ∨
  (∃ (ys : List Int) (u : Nat) (ui : Int) (a : Option Addr) (n c : Nat), pb xs = some (ys, u) ∧ ui = u ∧ r = .tuple #[.slice a n c, .int .i64 ui, .bool true] ∧ RI R' .u8 a n ys)


set_option maxRecDepth 100000 in
set_option maxHeartbeats 2000000 in
theorem readS {P : Program} (hP : P = Tryd.prog) (R : RO) (a : Option Addr) (N c : Nat) (xs : List Int) (h : RI R .u8 a N xs) (hN : N ≤ 100000) (hc : N ≤ c) :
    RetP P 24 [.slice a N c] R fun R' r => SOut xs R' r := by
  subst hP
  have hl := h.len
  have hxb : ∀ x ∈ xs, 0 ≤ x ∧ x ≤ 255 := fun x hx => by
    have := h.wf x hx
    simp [Lit.wf, IntKind.min, IntKind.max, IntKind.bits, IntKind.signed] at this
    omega
  refine retP_vc (fz := []) Tryd.func24 rfl (by decide) rfl ok24 ?_
  intro P bin cmp cnv neg com bnot beq ofN toN at_ sub_ scmp cat sget ssz ssub elem fld_ hP hA
  conv => cbv
  refine callP_in (fz := []) hP hA Tryd.func52 rfl (by decide) rfl ok52 (by simp [labL, lab]) ?_
  conv => cbv
  refine CallP.lend (varIntC hP R a N c xs h hN hc) rfl rfl ?_
  intro R1 hp1 nx1 rs1 r1 hR1 ho
  have oN : ofN N = (N : Int) := ofN_ hA N
  rcases ho () with ⟨hpv, q, v, hf, rfl⟩ | ⟨u, q, v, hq, hpv, hf, rfl⟩
  · refine ⟨_, _, _, hf, rfl, rfl, ?_⟩
    conv => cbv
    refine callP_in (fz := []) hP hA Tryd.func78 rfl (by decide) rfl ok78 (by simp [labL, lab]) ?_
    conv => cbv
    refine ⟨[0, 1, 2, 3, 4, 5, 6, 7, 8, 9, 10, 11, 12, 13, 14, 15, 16, 17, 18], [], mix hP, by kernel_rfl, ?_⟩
    conv => cbv
    intro ρ R'' _ _ _
    exact .inl ⟨by rw [pb, hpv], _, _, rfl⟩
  refine ⟨_, _, _, hf, rfl, rfl, ?_⟩
  conv => cbv
  refine callP_in (fz := []) hP hA Tryd.func78 rfl (by decide) rfl ok78 (by simp [labL, lab]) ?_
  conv => cbv
  refine ⟨[0, 1, 2, 3, 4, 5, 6, 7, 8, 9, 10, 11, 12, 13, 14, 15, 16, 17, 18], [], mix hP, by kernel_rfl, ?_⟩
  conv => cbv
  obtain ⟨hu1, hu2⟩ := pv_len hpv
  obtain ⟨hv0, hv1⟩ := pv_nn hxb hpv
  have es : bin .sub .i64 (ofN N) q = (N : Int) - u := by rw [oN, hq]; exact sub_i64 hA (by omega)
  have eu : cnv .u64 (bin .sub .i64 (ofN N) q) = (N : Int) - u := by rw [es]; exact cnv_u64 hA (by omega)
  by_cases hlt : (N : Int) - u < v
  · have cg : cmp .gtr v (cnv .u64 (bin .sub .i64 (ofN N) q)) = true := by rw [eu, cmp_gtr hA]; simp; omega
    refine br_t cg ?_
    conv => cbv
    intro ρ R'' _ _ _
    refine .inl ⟨?_, _, _, rfl⟩
    rw [pb, hpv]
    simp only
    rw [if_neg (by omega)]
  have cg : cmp .gtr v (cnv .u64 (bin .sub .i64 (ofN N) q)) = false := by rw [eu, cmp_gtr hA]; simp; omega
  refine br_f cg ?_
  conv => cbv
  refine ⟨[0, 1, 2, 3, 4, 5, 6, 7, 8, 9, 10, 11, 12, 13, 14, 15, 16], [], mix hP, by kernel_rfl, ?_⟩
  conv => cbv
  obtain ⟨k, hk⟩ : ∃ k : Nat, v = k := ⟨v.toNat, by omega⟩
  have eki : cnv .i64 v = v := cnv_i64 hA (by omega)
  have esum : bin .add .i64 q (cnv .i64 v) = ((u + k : Nat) : Int) := by rw [eki, hq, hk]; rw [add_i64 hA (by omega)]; simp
  refine ⟨u, u + k, by rw [hq]; rfl, by rw [esum]; rfl, by omega, by omega, ?_⟩
  intro a2 n2 c2 hn2 hc2 ha2
  obtain rfl : k = n2 := by omega
  have h2 := (h.le hR1).part' (l := u) (m := u + k) (by omega) (by omega) (by omega : k = u + k - u) hc ha2
  rw [show u + k - u = k by omega] at h2
  conv => cbv
  refine ⟨0, [], _, _, _, k, _, .own 1 0 _ [] rfl rfl rfl rfl (by decide), .refl _, h2.src, by omega, by omega, ?_⟩
  intro a3 n3 c3 z3 hn3 hz3 hs3
  obtain rfl : k = n3 := by omega
  conv => cbv
  refine ⟨[0, 1, 2, 3, 4, 5, 6, 7], [], mix hP, by kernel_rfl, ?_⟩
  conv => cbv
  intro ρ R'' _ _ hpr
  have hL : ((xs.drop u).take k).length = k := by simp; omega
  have r3 : RI R'' .u8 a3 k ((xs.drop u).take k) := ri_pub (hpr _ (List.mem_cons_self ..)) hs3 hL.symm rfl (by show z3 = _; rw [hz3]; rfl) (fun x hx => h.wf x (List.mem_of_mem_drop (List.mem_of_mem_take hx)))
  refine .inr ⟨(xs.drop u).take k, u + k, bin .add .i64 q (cnv .i64 v), a3, k, c3, ?_, esum, rfl, r3⟩
  rw [pb, hpv]
  simp only
  rw [if_pos (by omega), hk]
  rfl
end Go.Proofs.YtnlpjppjhikooaaDoor.Vs
