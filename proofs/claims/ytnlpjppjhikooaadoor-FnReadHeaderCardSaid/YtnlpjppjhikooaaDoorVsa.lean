/- Bytes with their number ahead: the reference's reader. -/
import Derived.Test.YtnlpjppjhikooaaDoorSu
import Derived.Test.YtnlpjppjhikooaaDoorTyvu
set_option linter.unusedSimpArgs false
set_option linter.unusedVariables false
namespace Go.Proofs.YtnlpjppjhikooaaDoor.Vs
open Go Go.Se Go.Proofs Go.Proofs.YtnlpjppjhikooaaDoor.Tyvu

theorem mix {P : Program} (hP : P = Tryd.prog) : P.follows .mixedOrders = true := by subst hP; rfl

/-- The number that bytes are, the lowest first. -/
def lv : List Int → Int
  | [] => 0
  | x :: xs => lv xs * 256 + x

theorem lv_lt : ∀ (L : List Int), (∀ x ∈ L, 0 ≤ x ∧ x ≤ 255) → 0 ≤ lv L ∧ lv L < 256 ^ L.length
  | [], _ => by decide
  | x :: L, h => by
    have h1 := lv_lt L fun y hy => h y (List.mem_cons_of_mem _ hy)
    have h2 := h x (List.mem_cons_self ..)
    rw [lv, List.length_cons, Int.pow_succ]
    omega

structure Li where
  i : Int
  v : Int

def wr (a : Option Addr) (N c : Nat) (p : Int) (bad : Bool) : List Value := [.slice a N c, .int .i64 p, .bool bad]

def LOut (xs : List Int) (a : Option Addr) (N c p k : Nat) (hp : List (Nat × HB)) (r : SV) : Prop :=
  (N < p + k ∧ ∃ q : Int, find hp 0 = some ⟨87, (wr a N c q true).map SV.v⟩ ∧ r = .v (.int .u64 0)) ∨
  (p + k ≤ N ∧ ∃ q v : Int, q = (p + k : Nat) ∧ v = lv ((xs.drop p).take k) ∧ find hp 0 = some ⟨87, (wr a N c q false).map SV.v⟩ ∧ r = .v (.int .u64 v))

set_option maxRecDepth 100000 in
set_option maxHeartbeats 2000000 in
theorem littleC {P : Program} (hP : P = Tryd.prog) (R : RO) (a : Option Addr) (N c : Nat) (xs : List Int) (h : RI R .u8 a N xs) (hN : N ≤ 100000) (hc : N ≤ c) (p k : Nat) (pi ki : Int) (hpi : pi = p) (hki : ki = k) (hp : p ≤ N) (hk1 : 1 ≤ k) (hk : k ≤ 8) :
    CallP P 74 (.p 0 0 :: [Value.int .i64 ki].map .v) R [(0, ⟨87, (wr a N c pi false).map SV.v⟩)] 1 [] fun R' hp' _ _ r => ∀ _ : Unit, LOut xs a N c p k hp' r := by
  subst hP
  have hl := h.len
  refine callP_vc (fz := []) Tryd.func74 rfl (by decide) rfl ok74 rfl ?_
  intro P bin cmp cnv neg com bnot beq ofN toN at_ sub_ scmp cat sget ssz ssub elem fld_ hP hA
  conv => cbv
  refine callP_in (fz := []) hP hA Tryd.func78 rfl (by decide) rfl ok78 (by simp [labL, lab]) ?_
  conv => cbv
  refine ⟨[0, 1, 2, 3, 4, 5, 6, 7, 8, 9, 10, 11, 12, 13, 14, 15, 16, 17, 18], [], mix hP, by kernel_rfl, ?_⟩
  conv => cbv
  have oN : ofN N = (N : Int) := ofN_ hA N
  have ek : cnv .u64 ki = ki := cnv_u64 hA (by omega)
  have es : bin .sub .i64 (ofN N) pi = (N : Int) - p := by rw [oN, hpi]; exact sub_i64 hA (by omega)
  have eu : cnv .u64 (bin .sub .i64 (ofN N) pi) = (N : Int) - p := by rw [es]; exact cnv_u64 hA (by omega)
  by_cases hlt : N < p + k
  · have cg : cmp .gtr (cnv .u64 ki) (cnv .u64 (bin .sub .i64 (ofN N) pi)) = true := by rw [ek, eu, cmp_gtr hA]; simp; omega
    refine br_t cg ?_
    conv => cbv
    have e0 : bin .sub .i64 (ofN 0) 1 = -1 := by rw [ofN_ hA]; exact sub_i64 hA (by omega)
    refine ⟨Int, fun x => ⟨[(7, .v (.int .i64 x)), (6, .v (.int .u64 0)), (5, .v (.slice none 0 0))], R, [(0, ⟨87, [.v (.slice a N c), .v (.int .i64 pi), .v (.bool true)]⟩)], 1, []⟩,
      fun m x => x = -1, ⟨0, bin .sub .i64 (ofN 0) 1, ⟨⟨rfl, rfl, rfl, trivial⟩, rfl, ⟨rfl, trivial⟩, rfl, .refl _⟩, e0⟩, ?_⟩
    rintro m x hx
    conv => cbv
    refine br_f (by rw [cmp_geq hA, hx]; simp) ?_
    conv => cbv
    exact fun _ => .inl ⟨hlt, pi, rfl, rfl⟩
  have cg : cmp .gtr (cnv .u64 ki) (cnv .u64 (bin .sub .i64 (ofN N) pi)) = false := by rw [ek, eu, cmp_gtr hA]; simp; omega
  refine br_f cg ?_
  conv => cbv
  refine ⟨[0, 1, 2, 3, 4, 5, 6, 7, 8, 9, 10, 11, 12, 13, 14, 15, 16], [], mix hP, by kernel_rfl, ?_⟩
  conv => cbv
  have eki : cnv .i64 ki = ki := cnv_i64 hA (by omega)
  have esum : bin .add .i64 pi (cnv .i64 (cnv .u64 ki)) = ((p + k : Nat) : Int) := by rw [ek, eki, hpi, hki]; rw [add_i64 hA (by omega)]; simp
  refine ⟨p, p + k, by rw [hpi]; rfl, by rw [esum]; rfl, by omega, by omega, ?_⟩
  intro a2 n2 c2 hn2 hc2 ha2
  obtain rfl : k = n2 := by omega
  have h2 := h.part' (l := p) (m := p + k) (by omega) (by omega) (by omega : k = p + k - p) hc ha2
  rw [show p + k - p = k by omega] at h2
  conv => cbv
  refine ⟨0, [], _, _, _, k, _, .own 1 0 _ [] rfl rfl rfl rfl (by decide), .refl _, h2.src, by omega, by omega, ?_⟩
  intro a3 n3 c3 z3 hn3 hz3 hs3
  obtain rfl : k = n3 := by omega
  obtain ⟨a3, rfl⟩ := Option.isSome_iff_exists.1 (hs3 (by omega))
  conv => cbv
  obtain ⟨L, hL⟩ : ∃ L, L = (xs.drop p).take k := ⟨_, rfl⟩
  have hLl : L.length = k := by rw [hL]; simp; omega
  have hLb : ∀ x ∈ L, 0 ≤ x ∧ x ≤ 255 := fun x hx => by
    have := h.wf x (by rw [hL] at hx; exact List.mem_of_mem_drop (List.mem_of_mem_take hx))
    simp [Lit.wf, IntKind.min, IntKind.max, IntKind.bits, IntKind.signed] at this
    omega
  have hz : z3 = ints .u8 L := by rw [hz3, hL]; rfl
  obtain ⟨q, hq⟩ : ∃ q, q = bin .add .i64 pi (cnv .i64 (cnv .u64 ki)) := ⟨_, rfl⟩
  rw [← hq] at esum
  have ok_ : ofN k = (k : Int) := ofN_ hA k
  refine ⟨Li, fun x => ⟨[(7, .v (.int .i64 x.i)), (6, .v (.int .u64 x.v)), (5, .v (.slice (some a3) k c3))], R, [(0, ⟨87, [.v (.slice a N c), .v (.int .i64 q), .v (.bool false)]⟩)], 2, [⟨some a3, k, c3, 5, 1, z3⟩]⟩,
    fun m x => x.i = (m : Int) - 1 ∧ m ≤ k ∧ x.v = lv (L.drop m), ⟨k, ⟨bin .sub .i64 (ofN k) 1, 0⟩, ⟨⟨rfl, rfl, rfl, trivial⟩, rfl, ⟨by rw [hq]; rfl, trivial⟩, rfl, .refl _⟩, by show bin .sub .i64 (ofN k) 1 = _; rw [ok_]; exact sub_i64 hA (by omega), by omega, by show (0 : Int) = _; rw [List.drop_of_length_le (by omega)]; rfl⟩, ?_⟩
  rintro m ⟨i, v⟩ ⟨hi, hm, hv⟩
  simp only at hi hv
  conv => cbv
  by_cases h0 : m = 0
  · refine br_f (by rw [cmp_geq hA, hi]; simp; omega) ?_
    conv => cbv
    refine fun _ => .inr ⟨by omega, q, v, esum, ?_, rfl, rfl⟩
    rw [hv, h0, ← hL]
    rfl
  refine br_t (by rw [cmp_geq hA, hi]; simp; omega) ?_
  conv => cbv
  obtain ⟨b, hb⟩ : ∃ b, L[m - 1]? = some b := ⟨_, List.getElem?_eq_getElem (by omega)⟩
  have hbb := hLb b (List.mem_of_getElem? hb)
  refine ⟨by omega, by rw [ok_]; omega, rfl, ?_⟩
  refine ld_row hA 0 (r := ⟨some a3, k, c3, 5, 1, z3⟩) rfl rfl rfl (v := .int .u8 b) (i := i) (by show z3[i.toNat]? = _; rw [hz, show i.toNat = m - 1 by omega, ints, List.getElem?_map, hb]; rfl) ?_
  conv => cbv
  have hd : L.drop (m - 1) = b :: L.drop m := by
    have hlt : m - 1 < L.length := by omega
    rw [List.drop_eq_getElem_cons hlt, show m - 1 + 1 = m by omega]
    rw [List.getElem?_eq_getElem hlt] at hb
    rw [Option.some.inj hb]
  have hbd := lv_lt (L.drop m) (fun x hx => hLb x (List.mem_of_mem_drop hx))
  have hpw : (256 : Int) ^ (L.drop m).length ≤ 256 ^ 7 := by
    rw [List.length_drop, hLl]
    exact_mod_cast Nat.pow_le_pow_right (by decide) (by omega)
  rw [← hv] at hbd
  have hv7 : v < 72057594037927936 := by
    have : (256 : Int) ^ 7 = 72057594037927936 := by decide
    omega
  have eb : cnv .u64 b = b := cnv_u64 hA (by omega)
  have em : bin .mul .u64 v 256 = v * 256 := mul_u64 hA (by omega)
  have ea : bin .add .u64 (bin .mul .u64 v 256) (cnv .u64 b) = v * 256 + b := by rw [em, eb]; exact add_u64 hA (by omega)
  have ei : bin .sub .i64 i 1 = i - 1 := sub_i64 hA (by omega)
  refine ⟨m - 1, ⟨bin .sub .i64 i 1, bin .add .u64 (bin .mul .u64 v 256) (cnv .u64 b)⟩, by omega, ⟨⟨rfl, rfl, rfl, trivial⟩, rfl, ⟨rfl, trivial⟩, rfl, .refl _⟩, by show bin .sub .i64 i 1 = ((m - 1 : Nat) : Int) - 1; rw [ei]; omega, by omega, ?_⟩
  show bin .add .u64 (bin .mul .u64 v 256) (cnv .u64 b) = _
  rw [ea, hd, hv]
  rfl
end Go.Proofs.YtnlpjppjhikooaaDoor.Vs
