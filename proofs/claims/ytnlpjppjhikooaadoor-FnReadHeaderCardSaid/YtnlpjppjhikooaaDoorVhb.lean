/- A header of eighty bytes: the reference's reader. -/
import Derived.Test.YtnlpjppjhikooaaDoorVsa
import Derived.Test.YtnlpjppjhikooaaDoorVha
import Derived.Test.YtnlpjppjhikooaaDoorTyvh
set_option linter.unusedSimpArgs false
set_option linter.unusedVariables false
namespace Go.Proofs.YtnlpjppjhikooaaDoor.Vs
open Go Go.Se Go.Proofs Go.Proofs.YtnlpjppjhikooaaDoor.Tyvh

/-- A number is read, whatever stands ahead. -/
def GOut (xs : List Int) (a : Option Addr) (N c p k : Nat) (bad : Bool) (hp : List (Nat × HB)) (r : SV) : Prop :=
  ∃ (q v : Int) (bad' : Bool), find hp 0 = some ⟨87, (wr a N c q bad').map SV.v⟩ ∧ r = .v (.int .u64 v) ∧ (bad' = true → bad = true ∨ N < p + k) ∧ (bad' = false → bad = false ∧ p + k ≤ N ∧ q = (p + k : Nat) ∧ v = lv ((xs.drop p).take k))

set_option maxRecDepth 100000 in
set_option maxHeartbeats 2000000 in
theorem littleB {P : Program} (hP : P = Tryd.prog) (R : RO) (a : Option Addr) (N c : Nat) (pi ki : Int) :
    CallP P 74 (.p 0 0 :: [Value.int .i64 ki].map .v) R [(0, ⟨87, (wr a N c pi true).map SV.v⟩)] 1 [] fun R' hp' _ _ r => ∀ _ : Unit, ∃ q : Int, find hp' 0 = some ⟨87, (wr a N c q true).map SV.v⟩ ∧ r = .v (.int .u64 0) := by
  subst hP
  refine callP_vc (fz := []) Tryd.func74 rfl (by decide) rfl ok74 rfl ?_
  intro P bin cmp cnv neg com bnot beq ofN toN at_ sub_ scmp cat sget ssz ssub elem fld_ hP hA
  conv => cbv
  refine callP_in (fz := []) hP hA Tryd.func78 rfl (by decide) rfl ok78 (by simp [labL, lab]) ?_
  conv => cbv
  refine ⟨[0, 1, 2, 3, 4, 5, 6, 7, 8, 9, 10, 11, 12, 13, 14, 15, 16, 17, 18], [], mix hP, by kernel_rfl, ?_⟩
  conv => cbv
  have e0 : bin .sub .i64 (ofN 0) 1 = -1 := by rw [ofN_ hA]; exact sub_i64 hA (by omega)
  refine ⟨Int, fun x => ⟨[(7, .v (.int .i64 x)), (6, .v (.int .u64 0)), (5, .v (.slice none 0 0))], R, [(0, ⟨87, [.v (.slice a N c), .v (.int .i64 pi), .v (.bool true)]⟩)], 1, []⟩,
    fun m x => x = -1, ⟨0, bin .sub .i64 (ofN 0) 1, ⟨⟨rfl, rfl, rfl, trivial⟩, rfl, ⟨rfl, trivial⟩, rfl, .refl _⟩, e0⟩, ?_⟩
  rintro m x hx
  conv => cbv
  refine br_f (by rw [cmp_geq hA, hx]; simp) ?_
  conv => cbv
  exact fun _ => ⟨pi, rfl, rfl⟩

theorem littleG {P : Program} (hP : P = Tryd.prog) (R : RO) (a : Option Addr) (N c : Nat) (xs : List Int) (h : RI R .u8 a N xs) (hN : N ≤ 100000) (hc : N ≤ c) (p k : Nat) (bad : Bool) (pi ki : Int) (hki : ki = k) (hp : bad = false → pi = p ∧ p ≤ N) (hk1 : 1 ≤ k) (hk : k ≤ 8) :
    CallP P 74 (.p 0 0 :: [Value.int .i64 ki].map .v) R [(0, ⟨87, (wr a N c pi bad).map SV.v⟩)] 1 [] fun R' hp' _ _ r => ∀ _ : Unit, GOut xs a N c p k bad hp' r := by
  cases bad with
  | true =>
    refine (littleB hP R a N c pi ki).mono fun R' hp' nx' rs' r h2 _ => ?_
    obtain ⟨q, hf, rfl⟩ := h2 ()
    exact ⟨q, 0, true, hf, rfl, fun _ => .inl rfl, fun e => by cases e⟩
  | false =>
    obtain ⟨h1, h2⟩ := hp rfl
    refine (littleC hP R a N c xs h hN hc p k pi ki h1 hki h2 hk1 hk).mono fun R' hp' nx' rs' r h3 _ => ?_
    rcases h3 () with ⟨hlt, q, hf, rfl⟩ | ⟨hle, q, v, hq, hv, hf, rfl⟩
    · exact ⟨q, 0, true, hf, rfl, fun _ => .inr hlt, fun e => by cases e⟩
    · exact ⟨q, v, false, hf, rfl, (fun e => by cases e), fun _ => ⟨rfl, hle, hq, hv⟩⟩

def HOut (xs : List Int) (a : Option Addr) (N c p : Nat) (bad : Bool) (hp : List (Nat × HB)) (r : SV) : Prop :=
  ∃ (q : Int) (ys : List Int) (bad' : Bool), find hp 0 = some ⟨87, (wr a N c q bad').map SV.v⟩ ∧ r = .v (.agg (ints .u8 ys).toArray) ∧ ys.length = 32 ∧ (bad' = true → bad = true ∨ N < p + 32) ∧ (bad' = false → bad = false ∧ p + 32 ≤ N ∧ q = (p + 32 : Nat) ∧ ys = (xs.drop p).take 32)



set_option maxRecDepth 100000 in
set_option maxHeartbeats 4000000 in
theorem hashB {P : Program} (hP : P = Tryd.prog) (R : RO) (a : Option Addr) (N c : Nat) (xs : List Int) (p : Nat) (pi : Int) :
    CallP P 75 [.p 0 0] R [(0, ⟨87, (wr a N c pi true).map SV.v⟩)] 1 [] fun R' hp' _ _ r => ∀ _ : Unit, HOut xs a N c p true hp' r := by
  subst hP
  refine callP_vc (fz := [503]) Tryd.func75 rfl (by decide) rfl ok75 rfl ?_
  intro P bin cmp cnv neg com bnot beq ofN toN at_ sub_ scmp cat sget ssz ssub elem fld_ hP hA
  conv => cbv
  refine ⟨_, rfl, by decide, ?_⟩
  intro ao no zo hno hzo
  obtain rfl : no = 32 := hno
  conv => cbv
  refine ⟨[0, 1, 2, 3], [2, 3], mix hP, by kernel_rfl, ?_⟩
  conv => cbv
  refine callP_in (fz := []) hP hA Tryd.func78 rfl (by decide) rfl ok78 (by simp [labL, lab]) ?_
  conv => cbv
  refine ⟨[0, 1, 2, 3, 4, 5, 6, 7, 8, 9, 10, 11, 12, 13, 14, 15, 16, 17, 18], [], mix hP, by kernel_rfl, ?_⟩
  conv => cbv
  refine ⟨0, [], .nil _, .inl ⟨rfl, ?_⟩⟩
  conv => cbv
  refine ld_rall 0 rfl rfl (by show zo.length = 32; rw [hzo]; rfl) ?_
  conv => cbv
  rw [hzo]
  conv => cbv
  exact fun _ => ⟨pi, List.replicate 32 0, true, rfl, rfl, rfl, fun _ => .inl rfl, fun e => by cases e⟩

set_option maxRecDepth 100000 in
set_option maxHeartbeats 4000000 in
theorem hashC {P : Program} (hP : P = Tryd.prog) (R : RO) (a : Option Addr) (N c : Nat) (xs : List Int) (h : RI R .u8 a N xs) (hN : N ≤ 100000) (hc : N ≤ c) (p : Nat) (pi : Int) (hpi : pi = p) (hp : p ≤ N) :
    CallP P 75 [.p 0 0] R [(0, ⟨87, (wr a N c pi false).map SV.v⟩)] 1 [] fun R' hp' _ _ r => ∀ _ : Unit, HOut xs a N c p false hp' r := by
  subst hP
  have hl := h.len
  refine callP_vc (fz := [503]) Tryd.func75 rfl (by decide) rfl ok75 rfl ?_
  intro P bin cmp cnv neg com bnot beq ofN toN at_ sub_ scmp cat sget ssz ssub elem fld_ hP hA
  conv => cbv
  refine ⟨_, rfl, by decide, ?_⟩
  intro ao no zo hno hzo
  obtain rfl : no = 32 := hno
  conv => cbv
  refine ⟨[0, 1, 2, 3], [2, 3], mix hP, by kernel_rfl, ?_⟩
  conv => cbv
  refine callP_in (fz := []) hP hA Tryd.func78 rfl (by decide) rfl ok78 (by simp [labL, lab]) ?_
  conv => cbv
  refine ⟨[0, 1, 2, 3, 4, 5, 6, 7, 8, 9, 10, 11, 12, 13, 14, 15, 16, 17, 18], [], mix hP, by kernel_rfl, ?_⟩
  conv => cbv
  have oN : ofN N = (N : Int) := ofN_ hA N
  have es : bin .sub .i64 (ofN N) pi = (N : Int) - p := by rw [oN, hpi]; exact sub_i64 hA (by omega)
  have eu : cnv .u64 (bin .sub .i64 (ofN N) pi) = (N : Int) - p := by rw [es]; exact cnv_u64 hA (by omega)
  by_cases hlt : N < p + 32
  · have cg : cmp .gtr 32 (cnv .u64 (bin .sub .i64 (ofN N) pi)) = true := by rw [eu, cmp_gtr hA]; simp; omega
    refine br_t cg ?_
    conv => cbv
    refine ⟨0, [], .nil _, .inl ⟨rfl, ?_⟩⟩
    conv => cbv
    refine ld_rall 0 rfl rfl (by show zo.length = 32; rw [hzo]; rfl) ?_
    conv => cbv
    rw [hzo]
    conv => cbv
    exact fun _ => ⟨pi, List.replicate 32 0, true, rfl, rfl, rfl, fun _ => .inr hlt, fun e => by cases e⟩
  have cg : cmp .gtr 32 (cnv .u64 (bin .sub .i64 (ofN N) pi)) = false := by rw [eu, cmp_gtr hA]; simp; omega
  refine br_f cg ?_
  conv => cbv
  refine ⟨[0, 1, 2, 3, 4, 5, 6, 7, 8, 9, 10, 11, 12, 13, 14, 15, 16], [], mix hP, by kernel_rfl, ?_⟩
  conv => cbv
  have eki : cnv .i64 32 = 32 := cnv_i64 hA (by omega)
  have esum : bin .add .i64 pi (cnv .i64 32) = ((p + 32 : Nat) : Int) := by rw [eki, hpi]; rw [add_i64 hA (by omega)]; simp
  refine ⟨p, p + 32, by rw [hpi]; rfl, by rw [esum]; rfl, by omega, by omega, ?_⟩
  intro a2 n2 c2 hn2 hc2 ha2
  obtain rfl : n2 = 32 := by omega
  have h2 := h.part' (l := p) (m := p + 32) (by omega) (by omega) (by omega : 32 = p + 32 - p) hc ha2
  rw [show p + 32 - p = 32 by omega] at h2
  conv => cbv
  refine ⟨0, [], _, _, _, 32, _, .own 2 0 _ [] rfl rfl rfl rfl (by decide), .refl _, h2.src, by omega, by omega, ?_⟩
  intro a3 n3 c3 z3 hn3 hz3 hs3
  obtain rfl : n3 = 32 := by omega
  obtain ⟨a3, rfl⟩ := Option.isSome_iff_exists.1 (hs3 (by omega))
  obtain ⟨q, hq⟩ : ∃ q, q = bin .add .i64 pi (cnv .i64 32) := ⟨_, rfl⟩
  rw [← hq] at esum
  simp (maxSteps := 10000000) only [← hq]
  conv => cbv
  obtain ⟨p0, p1, p2, p3, p4, p5, p6, p7, p8, p9, p10, p11, p12, p13, p14, p15, p16, p17, p18, p19, p20, p21, p22, p23, p24, p25, p26, p27, p28, p29, p30, p31, hPQ⟩ := l32 (l := (xs.drop p).take 32) (by simp; omega)
  have hz : z3 = ints .u8 [p0, p1, p2, p3, p4, p5, p6, p7, p8, p9, p10, p11, p12, p13, p14, p15, p16, p17, p18, p19, p20, p21, p22, p23, p24, p25, p26, p27, p28, p29, p30, p31] := by rw [hz3, hPQ]; rfl
  refine ⟨32, z3, src_row (r := ⟨some a3, 32, c3, 5, 1, z3⟩) (List.mem_cons_self ..) (fun _ => rfl) (by show z3.length = _; rw [hz]; rfl) (by show ∀ v ∈ z3, _; rw [hz]; exact ints_one _ _), .inr ⟨1, _, ao, 0, ao, rfl, rfl, rfl, rfl, by show 0 + 32 * 1 ≤ zo.length; rw [hzo]; decide, ?_⟩⟩
  intro n4 z4 hn4 hz4
  obtain rfl : n4 = 32 := hn4
  have hz5 : z4 = ints .u8 [p0, p1, p2, p3, p4, p5, p6, p7, p8, p9, p10, p11, p12, p13, p14, p15, p16, p17, p18, p19, p20, p21, p22, p23, p24, p25, p26, p27, p28, p29, p30, p31] := by
    rw [hz4]
    show List.take 0 zo ++ List.take (32 * 1) z3 ++ List.drop (0 + 32 * 1) zo = _
    rw [hz, hzo]
    rfl
  conv => cbv
  refine ld_rall 1 rfl rfl (by show z4.length = 32; rw [hz5]; rfl) ?_
  conv => cbv
  rw [hz5]
  conv => cbv
  exact fun _ => ⟨q, [p0, p1, p2, p3, p4, p5, p6, p7, p8, p9, p10, p11, p12, p13, p14, p15, p16, p17, p18, p19, p20, p21, p22, p23, p24, p25, p26, p27, p28, p29, p30, p31], false, rfl, rfl, rfl, (fun e => by cases e), fun _ => ⟨rfl, by omega, esum, hPQ.symm⟩⟩

theorem hashG {P : Program} (hP : P = Tryd.prog) (R : RO) (a : Option Addr) (N c : Nat) (xs : List Int) (h : RI R .u8 a N xs) (hN : N ≤ 100000) (hc : N ≤ c) (p : Nat) (bad : Bool) (pi : Int) (hp : bad = false → pi = p ∧ p ≤ N) :
    CallP P 75 [.p 0 0] R [(0, ⟨87, (wr a N c pi bad).map SV.v⟩)] 1 [] fun R' hp' _ _ r => ∀ _ : Unit, HOut xs a N c p bad hp' r := by
  cases bad with
  | true => exact hashB hP R a N c xs p pi
  | false => exact hashC hP R a N c xs h hN hc p pi (hp rfl).1 (hp rfl).2

/-- A header's cells. -/
def hd (V : Int) (A B : List Int) (t b n : Int) : List Value := .int .i32 V :: (ints .u8 A ++ (ints .u8 B ++ [.int .u32 t, .int .u32 b, .int .u32 n]))

/-- No header. -/
def hz : List Value := .int .i32 0 :: (List.replicate 64 (.int .u8 0) ++ List.replicate 3 (.int .u32 0))

/-- The header that stands at the front. -/
def hdx (xs : List Int) : List Value := hd (IntKind.i32.wrap (lv ((xs.drop 0).take 4))) ((xs.drop 4).take 32) ((xs.drop 36).take 32) (lv ((xs.drop 68).take 4)) (lv ((xs.drop 72).take 4)) (lv ((xs.drop 76).take 4))

set_option maxRecDepth 100000 in
set_option maxHeartbeats 4000000 in
theorem headerS {P : Program} (hP : P = Tryd.prog) (R : RO) (a : Option Addr) (N c : Nat) (xs : List Int) (h : RI R .u8 a N xs) (hN : N ≤ 100000) (hc : N ≤ c) (H : List Value) (hH : H = hdx xs) :
    RetP P 22 [.slice a N c] R fun R' r => (N < 80 ∧ r = .tuple #[.agg hz.toArray, .bool false]) ∨ (80 ≤ N ∧ r = .tuple #[.agg H.toArray, .bool true]) := by
  subst hP
  have hl := h.len
  have hxb : ∀ x ∈ xs, 0 ≤ x ∧ x ≤ 255 := fun x hx => by
    have := h.wf x hx
    simp [Lit.wf, IntKind.min, IntKind.max, IntKind.bits, IntKind.signed] at this
    omega
  refine retP_vc (fz := []) Tryd.func22 rfl (by decide) rfl ok22 ?_
  intro P bin cmp cnv neg com bnot beq ofN toN at_ sub_ scmp cat sget ssz ssub elem fld_ hP hA
  conv => cbv
  refine callP_in (fz := []) hP hA Tryd.func49 rfl (by decide) rfl ok49 (by simp [labL, lab]) ?_
  conv => cbv
  refine CallP.lendA (us := [.int .i64 4]) (littleG hP R a N c xs h hN hc 0 4 false 0 4 rfl (fun _ => ⟨rfl, by omega⟩) (by decide) (by decide)) rfl rfl ?_
  rintro R1 hp1 nx1 rs1 r1 hR1 ho
  obtain ⟨u1, v1, b1, hf, rfl, hb1, hg1⟩ := ho ()
  refine ⟨_, _, _, hf, rfl, rfl, ?_⟩
  replace h := h.le hR1
  conv => cbv
  refine CallP.lend (hashG hP R1 a N c xs h hN hc 4 b1 u1 (fun e => ⟨(hg1 e).2.2.1, (hg1 e).2.1⟩)) rfl rfl ?_
  rintro R2 hp2 nx2 rs2 r2 hR2 ho
  obtain ⟨u2, P2, b2, hf, rfl, hl2, hb2, hg2⟩ := ho ()
  refine ⟨_, _, _, hf, rfl, rfl, ?_⟩
  replace h := h.le hR2
  obtain ⟨p0, p1, p2, p3, p4, p5, p6, p7, p8, p9, p10, p11, p12, p13, p14, p15, p16, p17, p18, p19, p20, p21, p22, p23, p24, p25, p26, p27, p28, p29, p30, p31, rfl⟩ := l32 hl2
  conv => cbv
  refine CallP.lend (hashG hP R2 a N c xs h hN hc 36 b2 u2 (fun e => ⟨(hg2 e).2.2.1, (hg2 e).2.1⟩)) rfl rfl ?_
  rintro R3 hp3 nx3 rs3 r3 hR3 ho
  obtain ⟨u3, P3, b3, hf, rfl, hl3, hb3, hg3⟩ := ho ()
  refine ⟨_, _, _, hf, rfl, rfl, ?_⟩
  replace h := h.le hR3
  obtain ⟨q0, q1, q2, q3, q4, q5, q6, q7, q8, q9, q10, q11, q12, q13, q14, q15, q16, q17, q18, q19, q20, q21, q22, q23, q24, q25, q26, q27, q28, q29, q30, q31, rfl⟩ := l32 hl3
  conv => cbv
  refine CallP.lendA (us := [.int .i64 4]) (littleG hP R3 a N c xs h hN hc 68 4 b3 u3 4 rfl (fun e => ⟨(hg3 e).2.2.1, (hg3 e).2.1⟩) (by decide) (by decide)) rfl rfl ?_
  rintro R4 hp4 nx4 rs4 r4 hR4 ho
  obtain ⟨u4, v4, b4, hf, rfl, hb4, hg4⟩ := ho ()
  refine ⟨_, _, _, hf, rfl, rfl, ?_⟩
  replace h := h.le hR4
  conv => cbv
  refine CallP.lendA (us := [.int .i64 4]) (littleG hP R4 a N c xs h hN hc 72 4 b4 u4 4 rfl (fun e => ⟨(hg4 e).2.2.1, (hg4 e).2.1⟩) (by decide) (by decide)) rfl rfl ?_
  rintro R5 hp5 nx5 rs5 r5 hR5 ho
  obtain ⟨u5, v5, b5, hf, rfl, hb5, hg5⟩ := ho ()
  refine ⟨_, _, _, hf, rfl, rfl, ?_⟩
  replace h := h.le hR5
  conv => cbv
  refine CallP.lendA (us := [.int .i64 4]) (littleG hP R5 a N c xs h hN hc 76 4 b5 u5 4 rfl (fun e => ⟨(hg5 e).2.2.1, (hg5 e).2.1⟩) (by decide) (by decide)) rfl rfl ?_
  rintro R6 hp6 nx6 rs6 r6 hR6 ho
  obtain ⟨u6, v6, b6, hf, rfl, hb6, hg6⟩ := ho ()
  refine ⟨_, _, _, hf, rfl, rfl, ?_⟩
  replace h := h.le hR6
  conv => cbv
  cases b6
  case true =>
    have hb : true = true := rfl
    conv => cbv
    intro ρ R'' _ _ _
    refine .inl ⟨?_, rfl⟩
    rcases hb6 hb with e | e
    · rcases hb5 e with e | e
      · rcases hb4 e with e | e
        · rcases hb3 e with e | e
          · rcases hb2 e with e | e
            · rcases hb1 e with e | e
              · cases e
              · omega
            · omega
          · omega
        · omega
      · omega
    · omega
  have e5 := (hg6 rfl).1
  have le6 := (hg6 rfl).2.1
  have ev6 := (hg6 rfl).2.2.2
  have e4 := (hg5 e5).1
  have le5 := (hg5 e5).2.1
  have ev5 := (hg5 e5).2.2.2
  have e3 := (hg4 e4).1
  have le4 := (hg4 e4).2.1
  have ev4 := (hg4 e4).2.2.2
  have e2 := (hg3 e3).1
  have le3 := (hg3 e3).2.1
  have ev3 := (hg3 e3).2.2.2
  have e1 := (hg2 e2).1
  have le2 := (hg2 e2).2.1
  have ev2 := (hg2 e2).2.2.2
  have e0 := (hg1 e1).1
  have le1 := (hg1 e1).2.1
  have ev1 := (hg1 e1).2.2.2
  have rng : ∀ (p : Nat), p + 4 ≤ N → 0 ≤ lv ((xs.drop p).take 4) ∧ lv ((xs.drop p).take 4) ≤ 4294967295 := fun p hp => by
    have h1 := lv_lt ((xs.drop p).take 4) (fun x hx => hxb x (List.mem_of_mem_drop (List.mem_of_mem_take hx)))
    rw [show ((xs.drop p).take 4).length = 4 by simp; omega, show (256 : Int) ^ 4 = 4294967296 by decide] at h1
    omega
  have c1 : cnv .i32 v1 = IntKind.i32.wrap (lv ((xs.drop 0).take 4)) := by rw [ev1, cnv_ hA]
  have c4 : cnv .u32 v4 = lv ((xs.drop 68).take 4) := by rw [ev4]; exact cnv_u32 hA (rng 68 le4)
  have c5 : cnv .u32 v5 = lv ((xs.drop 72).take 4) := by rw [ev5]; exact cnv_u32 hA (rng 72 le5)
  have c6 : cnv .u32 v6 = lv ((xs.drop 76).take 4) := by rw [ev6]; exact cnv_u32 hA (rng 76 le6)
  conv => cbv
  intro ρ R'' _ _ _
  refine .inr ⟨by omega, ?_⟩
  rw [hH, hdx, ← c1, ← c4, ← c5, ← c6, ← ev2, ← ev3]
  rfl
end Go.Proofs.YtnlpjppjhikooaaDoor.Vs
