/- Bytes with their number ahead: the reference's number. -/
import Derived.Test.YtnlpjppjhikooaaDoorVsa
import Derived.Test.YtnlpjppjhikooaaDoorVra
set_option linter.unusedSimpArgs false
set_option linter.unusedVariables false
namespace Go.Proofs.YtnlpjppjhikooaaDoor.Vs
open Go Go.Se Go.Proofs Go.Proofs.YtnlpjppjhikooaaDoor.Tyvu

def ext (t : List Int) (k : Nat) (m : Int) : Option (Int × Nat) := if t.length < k then none else if lv (t.take k) < m then none else some (lv (t.take k), k + 1)

/-- A number at the front, and how many bytes it has. -/
def pv : List Int → Option (Int × Nat)
  | [] => none
  | d :: t => if d = 253 then ext t 2 253 else if d = 254 then ext t 4 65536 else if d = 255 then ext t 8 4294967296 else some (d, 1)

theorem vi_head (v : Nat) : ∃ e tl, Vr.vi v = e :: tl ∧ 0 ≤ e ∧ e ≤ 255 ∧ (e = 253 ↔ 253 ≤ v ∧ v < 65536) ∧ (e = 254 ↔ 65536 ≤ v ∧ v < 4294967296) ∧ (e = 255 ↔ 4294967296 ≤ v) := by
  unfold Vr.vi
  split
  · exact ⟨_, _, rfl, by omega, by omega, by omega, by omega, by omega⟩
  split
  · exact ⟨_, _, rfl, by omega, by omega, by omega, by omega, by omega⟩
  split
  · exact ⟨_, _, rfl, by omega, by omega, by omega, by omega, by omega⟩
  · exact ⟨_, _, rfl, by omega, by omega, by omega, by omega, by omega⟩

def VOut (xs : List Int) (a : Option Addr) (N c : Nat) (hp : List (Nat × HB)) (r : SV) : Prop :=
  (pv xs = none ∧ ∃ q v : Int, find hp 0 = some ⟨87, (wr a N c q true).map SV.v⟩ ∧ r = .v (.int .u64 v)) ∨
  (∃ (u : Nat) (q v : Int), q = u ∧ pv xs = some (v, u) ∧ find hp 0 = some ⟨87, (wr a N c q false).map SV.v⟩ ∧ r = .v (.int .u64 v))


set_option maxRecDepth 100000 in
set_option maxHeartbeats 2000000 in
theorem varIntC {P : Program} (hP : P = Tryd.prog) (R : RO) (a : Option Addr) (N c : Nat) (xs : List Int) (h : RI R .u8 a N xs) (hN : N ≤ 100000) (hc : N ≤ c) :
    CallP P 79 [.p 0 0] R [(0, ⟨87, (wr a N c 0 false).map SV.v⟩)] 1 [] fun R' hp' _ _ r => ∀ _ : Unit, VOut xs a N c hp' r := by
  subst hP
  have hl := h.len
  refine callP_vc (fz := []) Tryd.func79 rfl (by decide) rfl ok79 rfl ?_
  intro P bin cmp cnv neg com bnot beq ofN toN at_ sub_ scmp cat sget ssz ssub elem fld_ hP hA
  conv => cbv
  refine CallP.lendA (us := [.int .i64 1]) (littleC hP R a N c xs h hN hc 0 1 0 1 rfl rfl (by omega) (by omega) (by omega)) rfl rfl ?_
  intro R1 hp1 nx1 rs1 r1 hR1 ho
  rcases ho () with ⟨hlt, q1, hf, rfl⟩ | ⟨hle, q1, v1, hq1, hv1, hf, rfl⟩
  · refine ⟨_, _, _, hf, rfl, rfl, ?_⟩
    have hx : xs = [] := List.eq_nil_of_length_eq_zero (by omega)
    conv => cbv
    refine br_f (by rw [cmp_eql hA]; rfl) ?_
    conv => cbv
    refine br_f (by rw [cmp_eql hA]; rfl) ?_
    conv => cbv
    refine br_f (by rw [cmp_eql hA]; rfl) ?_
    conv => cbv
    exact fun _ => .inl ⟨by rw [hx]; rfl, q1, 0, rfl, rfl⟩
  obtain ⟨d, t, hx⟩ : ∃ d t, xs = d :: t := by cases xs with
    | nil => simp at hl; omega
    | cons d t => exact ⟨d, t, rfl⟩
  have hq : q1 = ((1 : Nat) : Int) := hq1
  have hv : v1 = d := by rw [hv1, hx]; show 0 * 256 + d = d; omega
  subst hv
  have hdb : 0 ≤ v1 ∧ v1 ≤ 255 := by
    have := h.wf v1 (by rw [hx]; exact List.mem_cons_self ..)
    simp [Lit.wf, IntKind.min, IntKind.max, IntKind.bits, IntKind.signed] at this
    omega
  have nt : bnot true = false := by rw [bnot_ hA]; rfl
  have nf : bnot false = true := by rw [bnot_ hA]; rfl
  refine ⟨_, _, _, hf, rfl, rfl, ?_⟩
  conv => cbv
  by_cases c1 : v1 = 253
  · refine br_t (by rw [cmp_eql hA, c1]; rfl) ?_
    conv => cbv
    have ex : pv (v1 :: t) = ext t 2 253 := by rw [pv, if_pos c1]
    refine CallP.lendA (us := [.int .i64 2]) (littleC hP R1 a N c xs (h.le hR1) hN hc 1 2 q1 2 hq rfl hle (by decide) (by decide)) rfl rfl ?_
    intro R2 hp2 nx2 rs2 r2 hR2 ho2
    rcases ho2 () with ⟨hlt2, q2, hf2, rfl⟩ | ⟨hle2, q2, v2, hq2, hv2, hf2, rfl⟩
    · refine ⟨_, _, _, hf2, rfl, rfl, ?_⟩
      conv => cbv
      simp (maxSteps := 10000000) only [nt]
      conv => cbv
      refine fun _ => .inl ⟨?_, q2, 0, rfl, rfl⟩
      rw [hx, ex, ext, if_pos (by rw [hx] at hl; simp at hl; omega)]
    refine ⟨_, _, _, hf2, rfl, rfl, ?_⟩
    conv => cbv
    simp (maxSteps := 10000000) only [nf]
    conv => cbv
    have hvt : v2 = lv (t.take 2) := by rw [hv2, hx]; rfl
    have htl : 2 ≤ t.length := by rw [hx] at hl; simp at hl; omega
    have hb2 := lv_lt (t.take 2) (fun x hxx => by
      have := h.wf x (by rw [hx]; exact List.mem_cons_of_mem _ (List.mem_of_mem_take hxx))
      simp [Lit.wf, IntKind.min, IntKind.max, IntKind.bits, IntKind.signed] at this
      omega)
    rw [← hvt, List.length_take, Nat.min_eq_left htl] at hb2
    have hb3 : 0 ≤ v2 ∧ v2 < 65536 := by
      have : (256 : Int) ^ 2 = 65536 := by decide
      omega
    obtain ⟨w, hw⟩ : ∃ w : Nat, v2 = w := ⟨v2.toNat, by omega⟩
    refine (Vr.varInt hP R2 v2 w hw (by omega)).call rfl ?_
    intro a5 n5 c5 z5 rs5 hb5 hs5 hz5
    obtain ⟨hn5, hz5⟩ := hz5
    obtain ⟨e, tl, he, he0, he1, he2, he3, he4⟩ := vi_head w
    rw [he] at hn5 hz5
    simp at hn5
    rcases hb5 with ⟨_, h0, _⟩ | rfl
    · omega
    obtain ⟨a5, rfl⟩ := Option.isSome_iff_exists.1 (hs5 (by omega))
    conv => cbv
    refine ⟨by decide, by rw [ofN_ hA]; omega, rfl, ?_⟩
    refine ld_row hA 0 (r := ⟨some a5, n5, c5, 5, 1, z5⟩) rfl rfl rfl (v := .int .u8 e) (i := 0) (by show z5[0]? = _; rw [hz5]; rfl) ?_
    conv => cbv
    have ec : cnv .u8 v1 = 253 := by rw [c1]; exact cnv_u8 hA (by omega)
    by_cases hmin : v2 < 253
    · refine br_t (by rw [ec, cmp_neq hA]; simp; omega) ?_
      conv => cbv
      refine fun _ => .inl ⟨?_, q2, v2, rfl, rfl⟩
      rw [hx, ex, ext, if_neg (by omega), if_pos (by rw [← hvt]; exact hmin)]
    refine br_f (by rw [ec, cmp_neq hA]; simp; omega) ?_
    conv => cbv
    refine fun _ => .inr ⟨2 + 1, q2, v2, by omega, ?_, rfl, rfl⟩
    rw [hx, ex, ext, if_neg (by omega), if_neg (by rw [← hvt]; exact hmin), ← hvt]
  refine br_f (by rw [cmp_eql hA]; simpa using c1) ?_
  conv => cbv
  by_cases c2 : v1 = 254
  · refine br_t (by rw [cmp_eql hA, c2]; rfl) ?_
    conv => cbv
    have ex : pv (v1 :: t) = ext t 4 65536 := by rw [pv, if_neg c1, if_pos c2]
    refine CallP.lendA (us := [.int .i64 4]) (littleC hP R1 a N c xs (h.le hR1) hN hc 1 4 q1 4 hq rfl hle (by decide) (by decide)) rfl rfl ?_
    intro R2 hp2 nx2 rs2 r2 hR2 ho2
    rcases ho2 () with ⟨hlt2, q2, hf2, rfl⟩ | ⟨hle2, q2, v2, hq2, hv2, hf2, rfl⟩
    · refine ⟨_, _, _, hf2, rfl, rfl, ?_⟩
      conv => cbv
      simp (maxSteps := 10000000) only [nt]
      conv => cbv
      refine fun _ => .inl ⟨?_, q2, 0, rfl, rfl⟩
      rw [hx, ex, ext, if_pos (by rw [hx] at hl; simp at hl; omega)]
    refine ⟨_, _, _, hf2, rfl, rfl, ?_⟩
    conv => cbv
    simp (maxSteps := 10000000) only [nf]
    conv => cbv
    have hvt : v2 = lv (t.take 4) := by rw [hv2, hx]; rfl
    have htl : 4 ≤ t.length := by rw [hx] at hl; simp at hl; omega
    have hb2 := lv_lt (t.take 4) (fun x hxx => by
      have := h.wf x (by rw [hx]; exact List.mem_cons_of_mem _ (List.mem_of_mem_take hxx))
      simp [Lit.wf, IntKind.min, IntKind.max, IntKind.bits, IntKind.signed] at this
      omega)
    rw [← hvt, List.length_take, Nat.min_eq_left htl] at hb2
    have hb3 : 0 ≤ v2 ∧ v2 < 4294967296 := by
      have : (256 : Int) ^ 4 = 4294967296 := by decide
      omega
    obtain ⟨w, hw⟩ : ∃ w : Nat, v2 = w := ⟨v2.toNat, by omega⟩
    refine (Vr.varInt hP R2 v2 w hw (by omega)).call rfl ?_
    intro a5 n5 c5 z5 rs5 hb5 hs5 hz5
    obtain ⟨hn5, hz5⟩ := hz5
    obtain ⟨e, tl, he, he0, he1, he2, he3, he4⟩ := vi_head w
    rw [he] at hn5 hz5
    simp at hn5
    rcases hb5 with ⟨_, h0, _⟩ | rfl
    · omega
    obtain ⟨a5, rfl⟩ := Option.isSome_iff_exists.1 (hs5 (by omega))
    conv => cbv
    refine ⟨by decide, by rw [ofN_ hA]; omega, rfl, ?_⟩
    refine ld_row hA 0 (r := ⟨some a5, n5, c5, 5, 1, z5⟩) rfl rfl rfl (v := .int .u8 e) (i := 0) (by show z5[0]? = _; rw [hz5]; rfl) ?_
    conv => cbv
    have ec : cnv .u8 v1 = 254 := by rw [c2]; exact cnv_u8 hA (by omega)
    by_cases hmin : v2 < 65536
    · refine br_t (by rw [ec, cmp_neq hA]; simp; omega) ?_
      conv => cbv
      refine fun _ => .inl ⟨?_, q2, v2, rfl, rfl⟩
      rw [hx, ex, ext, if_neg (by omega), if_pos (by rw [← hvt]; exact hmin)]
    refine br_f (by rw [ec, cmp_neq hA]; simp; omega) ?_
    conv => cbv
    refine fun _ => .inr ⟨4 + 1, q2, v2, by omega, ?_, rfl, rfl⟩
    rw [hx, ex, ext, if_neg (by omega), if_neg (by rw [← hvt]; exact hmin), ← hvt]
  refine br_f (by rw [cmp_eql hA]; simpa using c2) ?_
  conv => cbv
  by_cases c3 : v1 = 255
  · refine br_t (by rw [cmp_eql hA, c3]; rfl) ?_
    conv => cbv
    have ex : pv (v1 :: t) = ext t 8 4294967296 := by rw [pv, if_neg c1, if_neg c2, if_pos c3]
    refine CallP.lendA (us := [.int .i64 8]) (littleC hP R1 a N c xs (h.le hR1) hN hc 1 8 q1 8 hq rfl hle (by decide) (by decide)) rfl rfl ?_
    intro R2 hp2 nx2 rs2 r2 hR2 ho2
    rcases ho2 () with ⟨hlt2, q2, hf2, rfl⟩ | ⟨hle2, q2, v2, hq2, hv2, hf2, rfl⟩
    · refine ⟨_, _, _, hf2, rfl, rfl, ?_⟩
      conv => cbv
      simp (maxSteps := 10000000) only [nt]
      conv => cbv
      refine fun _ => .inl ⟨?_, q2, 0, rfl, rfl⟩
      rw [hx, ex, ext, if_pos (by rw [hx] at hl; simp at hl; omega)]
    refine ⟨_, _, _, hf2, rfl, rfl, ?_⟩
    conv => cbv
    simp (maxSteps := 10000000) only [nf]
    conv => cbv
    have hvt : v2 = lv (t.take 8) := by rw [hv2, hx]; rfl
    have htl : 8 ≤ t.length := by rw [hx] at hl; simp at hl; omega
    have hb2 := lv_lt (t.take 8) (fun x hxx => by
      have := h.wf x (by rw [hx]; exact List.mem_cons_of_mem _ (List.mem_of_mem_take hxx))
      simp [Lit.wf, IntKind.min, IntKind.max, IntKind.bits, IntKind.signed] at this
      omega)
    rw [← hvt, List.length_take, Nat.min_eq_left htl] at hb2
    have hb3 : 0 ≤ v2 ∧ v2 < 18446744073709551616 := by
      have : (256 : Int) ^ 8 = 18446744073709551616 := by decide
      omega
    obtain ⟨w, hw⟩ : ∃ w : Nat, v2 = w := ⟨v2.toNat, by omega⟩
    refine (Vr.varInt hP R2 v2 w hw (by omega)).call rfl ?_
    intro a5 n5 c5 z5 rs5 hb5 hs5 hz5
    obtain ⟨hn5, hz5⟩ := hz5
    obtain ⟨e, tl, he, he0, he1, he2, he3, he4⟩ := vi_head w
    rw [he] at hn5 hz5
    simp at hn5
    rcases hb5 with ⟨_, h0, _⟩ | rfl
    · omega
    obtain ⟨a5, rfl⟩ := Option.isSome_iff_exists.1 (hs5 (by omega))
    conv => cbv
    refine ⟨by decide, by rw [ofN_ hA]; omega, rfl, ?_⟩
    refine ld_row hA 0 (r := ⟨some a5, n5, c5, 5, 1, z5⟩) rfl rfl rfl (v := .int .u8 e) (i := 0) (by show z5[0]? = _; rw [hz5]; rfl) ?_
    conv => cbv
    have ec : cnv .u8 v1 = 255 := by rw [c3]; exact cnv_u8 hA (by omega)
    by_cases hmin : v2 < 4294967296
    · refine br_t (by rw [ec, cmp_neq hA]; simp; omega) ?_
      conv => cbv
      refine fun _ => .inl ⟨?_, q2, v2, rfl, rfl⟩
      rw [hx, ex, ext, if_neg (by omega), if_pos (by rw [← hvt]; exact hmin)]
    refine br_f (by rw [ec, cmp_neq hA]; simp; omega) ?_
    conv => cbv
    refine fun _ => .inr ⟨8 + 1, q2, v2, by omega, ?_, rfl, rfl⟩
    rw [hx, ex, ext, if_neg (by omega), if_neg (by rw [← hvt]; exact hmin), ← hvt]
  refine br_f (by rw [cmp_eql hA]; simpa using c3) ?_
  conv => cbv
  refine fun _ => .inr ⟨1, q1, v1, hq, ?_, rfl, rfl⟩
  rw [hx, pv, if_neg c1, if_neg c2, if_neg c3]
end Go.Proofs.YtnlpjppjhikooaaDoor.Vs
