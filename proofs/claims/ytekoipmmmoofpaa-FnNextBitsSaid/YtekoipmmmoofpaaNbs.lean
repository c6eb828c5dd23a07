/- Rules and chains that statements look at. -/
import Derived.Test.YtekoipmmmoofpaaNbr
import Derived.ChangeSlices
import Derived.ChangeArms
import Derived.Test.YtekoipmmmoofpaaSl
import Derived.Test.YtekoipmmmoofpaaProg
import Derived.KernelRfl
-- merged
/- The types that some functions name, as the evaluator wants them. Printed by a program of my own (seatgen.py). -/
namespace Go.Proofs.Ytekoipmmmoofpaa.Tynt
open Go Go.Se Go.Proofs

/-- int64 -/
def y2 : Ty := ⟨.int .i64, 1, false, .int .i64 0, 8⟩
theorem ty2 : tyOf Try.prog 2 = some y2 := by kernel_rfl
/-- int -/
def y3 : Ty := ⟨.int .i64, 1, false, .int .i64 0, 8⟩
theorem ty3 : tyOf Try.prog 3 = some y3 := by kernel_rfl
/-- bool -/
def y4 : Ty := ⟨.bool, 1, false, .bool false, 1⟩
theorem ty4 : tyOf Try.prog 4 = some y4 := by kernel_rfl
/-- uint8 -/
def y5 : Ty := ⟨.int .u8, 1, false, .int .u8 0, 1⟩
theorem ty5 : tyOf Try.prog 5 = some y5 := by kernel_rfl
/-- int32 -/
def y21 : Ty := ⟨.int .i32, 1, false, .int .i32 0, 4⟩
theorem ty21 : tyOf Try.prog 21 = some y21 := by kernel_rfl
/-- []uint8 -/
def y22 : Ty := ⟨.slc 5, 1, false, .slice none 0 0, 24⟩
theorem ty22 : tyOf Try.prog 22 = some y22 := by kernel_rfl
/-- uint32 -/
def y23 : Ty := ⟨.int .u32, 1, false, .int .u32 0, 4⟩
theorem ty23 : tyOf Try.prog 23 = some y23 := by kernel_rfl
/-- impl.Rules -/
def y25 : Ty := ⟨.stc [(0, 22), (1, 23), (2, 2), (3, 2), (4, 2), (5, 4), (6, 2), (7, 4), (8, 21), (9, 21), (10, 21)], 11, true, .agg #[.slice none 0 0, .int .u32 0, .int .i64 0, .int .i64 0, .int .i64 0, .bool false, .int .i64 0, .bool false, .int .i32 0, .int .i32 0, .int .i32 0], 88⟩
theorem ty25 : tyOf Try.prog 25 = some y25 := by kernel_rfl
/-- []impl.Header -/
def y26 : Ty := ⟨.slc 37, 1, false, .slice none 0 0, 24⟩
theorem ty26 : tyOf Try.prog 26 = some y26 := by kernel_rfl
/-- [32]uint8 -/
def y35 : Ty := ⟨.arr 32 5, 32, true, .agg #[.int .u8 0, .int .u8 0, .int .u8 0, .int .u8 0, .int .u8 0, .int .u8 0, .int .u8 0, .int .u8 0, .int .u8 0, .int .u8 0, .int .u8 0, .int .u8 0, .int .u8 0, .int .u8 0, .int .u8 0, .int .u8 0, .int .u8 0, .int .u8 0, .int .u8 0, .int .u8 0, .int .u8 0, .int .u8 0, .int .u8 0, .int .u8 0, .int .u8 0, .int .u8 0, .int .u8 0, .int .u8 0, .int .u8 0, .int .u8 0, .int .u8 0, .int .u8 0], 32⟩
theorem ty35 : tyOf Try.prog 35 = some y35 := by kernel_rfl
/-- impl.Header -/
def y37 : Ty := ⟨.stc [(0, 21), (1, 35), (33, 35), (65, 23), (66, 23), (67, 23)], 68, true, .agg #[.int .i32 0, .int .u8 0, .int .u8 0, .int .u8 0, .int .u8 0, .int .u8 0, .int .u8 0, .int .u8 0, .int .u8 0, .int .u8 0, .int .u8 0, .int .u8 0, .int .u8 0, .int .u8 0, .int .u8 0, .int .u8 0, .int .u8 0, .int .u8 0, .int .u8 0, .int .u8 0, .int .u8 0, .int .u8 0, .int .u8 0, .int .u8 0, .int .u8 0, .int .u8 0, .int .u8 0, .int .u8 0, .int .u8 0, .int .u8 0, .int .u8 0, .int .u8 0, .int .u8 0, .int .u8 0, .int .u8 0, .int .u8 0, .int .u8 0, .int .u8 0, .int .u8 0, .int .u8 0, .int .u8 0, .int .u8 0, .int .u8 0, .int .u8 0, .int .u8 0, .int .u8 0, .int .u8 0, .int .u8 0, .int .u8 0, .int .u8 0, .int .u8 0, .int .u8 0, .int .u8 0, .int .u8 0, .int .u8 0, .int .u8 0, .int .u8 0, .int .u8 0, .int .u8 0, .int .u8 0, .int .u8 0, .int .u8 0, .int .u8 0, .int .u8 0, .int .u8 0, .int .u32 0, .int .u32 0, .int .u32 0], 80⟩
theorem ty37 : tyOf Try.prog 37 = some y37 := by kernel_rfl

/-- function 5: pub-mintmark/laws.ruled -/
def tys5 : Nat → Option Ty := fun t => find [(25, y25), (22, y22), (5, y5), (23, y23), (2, y2), (4, y4), (21, y21), (26, y26), (37, y37), (3, y3), (35, y35)] t
theorem ok5 : TysOk Try.prog tys5 := tysOk_of ⟨ty25, ty22, ty5, ty23, ty2, ty4, ty21, ty26, ty37, ty3, ty35, trivial⟩
end Go.Proofs.Ytekoipmmmoofpaa.Tynt
set_option linter.unusedSimpArgs false
set_option linter.unusedVariables false
namespace Go.Proofs.Ytekoipmmmoofpaa.Co
open Go Go.Se Go.Proofs Go.ChangeShapes Go.Proofs.Ytekoipmmmoofpaa.Ht Go.Proofs.Ytekoipmmmoofpaa.Tynt

/-- Rules of the text in read-only memory. -/
def RulesAt (R : RO) (cs : List Value) (xs : List Int) : Prop := ∃ (la : Option Addr) (ln lc : Nat) (lb ts sp fa : Int) (re : Bool) (ra : Int) (fi : Bool) (h34 h66 h65 : Int),
  cs = [.slice la ln lc, .int .u32 lb, .int .i64 ts, .int .i64 sp, .int .i64 fa, .bool re, .int .i64 ra, .bool fi, .int .i32 h34, .int .i32 h66, .int .i32 h65] ∧ RI R .u8 la ln xs ∧ ln ≤ lc ∧ 0 ≤ lb ∧ lb < 4294967296

section
variable {H : Type} {enc : TypeId × Value → H} {w : World} {base : Nat} {sp : Nat → Bool} {held : Bool} {fuel : Nat} {cs : List Value} {x : DataW H × List MemPlace}

theorem bytes_of (h : DataW.trod enc Try.prog w base sp held fuel 22 cs = some x) : ∃ (xs : List Int) (a : Option Addr) (n c : Nat), cs = [.slice a n c] ∧ RI (fun b => w.heap[b]?) .u8 a n xs ∧ n ≤ c := by
  rcases open_ints Try.underlying22 Try.underlying5 (by kernel_rfl) h with ⟨hcs, _⟩ | ⟨a, l, c, zs, hcs, _, hl, hm, hz, _, hcell, hwz⟩
  · exact ⟨[], none, 0, 0, hcs, RI.nil, Nat.zero_le _⟩
  · refine ⟨zs.take l, some a, l, c, hcs, RI.of_cells hcell hwz ?_, hl⟩
    rw [hz]; split <;> omega

theorem int_of {k : IntKind} {t : Nat} (ht : Program.underlying Try.prog t = some (.int k)) (h : DataW.trod enc Try.prog w base sp held fuel t cs = some x) : ∃ n, cs = [.int k n] ∧ (Lit.int k n).wf = true := by
  obtain ⟨n, h1, _, h2⟩ := DataW.trod_int ht h
  exact ⟨n, h1, h2⟩

theorem cut {α : Type} (l : List α) (o n : Nat) : l.drop o = (l.drop o).take n ++ l.drop (o + n) := by rw [← List.drop_drop, List.take_append_drop]

theorem wf32 {k : Int} (h : (Lit.int .u32 k).wf = true) : 0 ≤ k ∧ k < 4294967296 := by
  exact Dg.of_wf (ds := [k]) (fun x hx => by rw [List.mem_singleton.1 hx]; exact h) k (List.mem_singleton.2 rfl)

theorem ints_of {k : IntKind} {n : Nat} {cs : List Value} (hl : cs.length = n) (h : ∀ i, i < n → ∃ m, (cs.drop i).take 1 = [.int k m] ∧ (Lit.int k m).wf = true) : ∃ xs, cs = ints k xs ∧ xs.length = n := by
  obtain ⟨xs, h1, h2⟩ := choose_list (q := fun i y => cs[i]? = some (.int k y) ∧ (Lit.int k y).wf = true) n fun i hi => by
    obtain ⟨m, hm, hw⟩ := h i hi
    refine ⟨m, ?_, hw⟩
    have : ((cs.drop i).take 1)[0]? = some (.int k m) := by rw [hm]; rfl
    rw [List.getElem?_take, if_pos (by decide), List.getElem?_drop] at this
    simpa using this
  refine ⟨xs, ?_, h1⟩
  apply List.ext_getElem?
  intro i
  rcases Nat.lt_or_ge i xs.length with hi | hi
  · rw [(h2 i xs[i] (List.getElem?_eq_getElem hi)).1]
    simp [ints, hi]
  · rw [List.getElem?_eq_none (by omega), List.getElem?_eq_none (by rw [ints_len]; omega)]

theorem hash_of (h : DataW.trod enc Try.prog w base sp held fuel 35 cs = some x) : ∃ xs, cs = ints .u8 xs ∧ xs.length = 32 := by
  obtain ⟨h1, m, h2⟩ := array_of ty35 rfl h
  refine ints_of h1 fun i hi => ?_
  obtain ⟨z, hz⟩ := h2 i hi
  rw [cellsOf_of ty5] at hz
  simp only [show y5.size = 1 from rfl, Nat.mul_one] at hz
  exact int_of Try.underlying5 hz

theorem hdr_of (h : DataW.trod enc Try.prog w base sp held fuel 37 cs = some x) : ∃ g, HAt (fun b => w.heap[b]?) cs g := by
  obtain ⟨h1, m, h2⟩ := struct_of ty37 rfl h
  obtain ⟨z1, e1⟩ := h2 (0, 21) (by simp)
  obtain ⟨z2, e2⟩ := h2 (1, 35) (by simp)
  obtain ⟨z3, e3⟩ := h2 (33, 35) (by simp)
  obtain ⟨z4, e4⟩ := h2 (65, 23) (by simp)
  obtain ⟨z5, e5⟩ := h2 (66, 23) (by simp)
  obtain ⟨z6, e6⟩ := h2 (67, 23) (by simp)
  rw [cellsOf_of ty21] at e1
  rw [cellsOf_of ty35] at e2 e3
  rw [cellsOf_of ty23] at e4 e5 e6
  obtain ⟨ver, c1, c2⟩ := int_of Try.underlying21 e1
  obtain ⟨prev, d1, d2⟩ := hash_of e2
  obtain ⟨root, f1, f2⟩ := hash_of e3
  obtain ⟨time, g1, g2⟩ := int_of Try.underlying23 e4
  obtain ⟨bits, i1, i2⟩ := int_of Try.underlying23 e5
  obtain ⟨nonce, j1, j2⟩ := int_of Try.underlying23 e6
  have w1 := wf32 g2
  have w2 := wf32 i2
  refine ⟨⟨time.toNat, bits.toNat⟩, ver, time, bits, nonce, prev, root, ?_, d2, f2, (Int.toNat_of_nonneg w1.1).symm, (Int.toNat_of_nonneg w2.1).symm, by show time.toNat < _; omega, by show bits.toNat < _; omega⟩
  have h3 : cs = cs.drop 0 := by simp
  have h1 : cs.length = 68 := h1
  rw [h3, cut cs 0 1, cut cs 1 32, cut cs 33 32, cut cs 65 1, cut cs 66 1, cut cs 67 1, List.drop_of_length_le (by omega : cs.length ≤ 67 + 1), List.append_nil]
  have k1 : (cs.drop 0).take 1 = _ := c1
  have k2 : (cs.drop 1).take 32 = _ := d1
  have k3 : (cs.drop 33).take 32 = _ := f1
  have k4 : (cs.drop 65).take 1 = _ := g1
  have k5 : (cs.drop 66).take 1 = _ := i1
  have k6 : (cs.drop 67).take 1 = _ := j1
  rw [k1, k2, k3, k4, k5, k6]
  simp

theorem hdrs_of (h : DataW.trod enc Try.prog w base sp held fuel 26 cs = some x) : ∃ a n c xs, cs = [.slice a n c] ∧ LAt (fun b => w.heap[b]?) 68 HAt a n c xs := by
  obtain ⟨a, n, c, xs, h1, h2⟩ := LAt.of_trod Try.underlying26 h (p := HAt) (fun _ _ _ hx _ => hdr_of hx)
  rw [cellsOf_of ty37] at h2
  exact ⟨a, n, c, xs, h1, h2⟩

theorem rules_of (h : DataW.trod enc Try.prog w base sp held fuel 25 cs = some x) : ∃ g, RulesAt (fun b => w.heap[b]?) cs g := by
  obtain ⟨h1, m, h2⟩ := struct_of ty25 rfl h
  obtain ⟨z0, e0⟩ := h2 (0, 22) (by simp)
  obtain ⟨z1, e1⟩ := h2 (1, 23) (by simp)
  obtain ⟨z2, e2⟩ := h2 (2, 2) (by simp)
  obtain ⟨z3, e3⟩ := h2 (3, 2) (by simp)
  obtain ⟨z4, e4⟩ := h2 (4, 2) (by simp)
  obtain ⟨z5, e5⟩ := h2 (5, 4) (by simp)
  obtain ⟨z6, e6⟩ := h2 (6, 2) (by simp)
  obtain ⟨z7, e7⟩ := h2 (7, 4) (by simp)
  obtain ⟨z8, e8⟩ := h2 (8, 21) (by simp)
  obtain ⟨z9, e9⟩ := h2 (9, 21) (by simp)
  obtain ⟨z10, e10⟩ := h2 (10, 21) (by simp)
  rw [cellsOf_of ty22] at e0
  rw [cellsOf_of ty23] at e1
  rw [cellsOf_of ty2] at e2 e3 e4 e6
  rw [cellsOf_of ty4] at e5 e7
  rw [cellsOf_of ty21] at e8 e9 e10
  obtain ⟨xs, la, ln, lc, k0, k0a, k0b⟩ := bytes_of e0
  obtain ⟨lb, k1, w1⟩ := int_of Try.underlying23 e1
  obtain ⟨ts, k2, _⟩ := int_of Try.underlying2 e2
  obtain ⟨sp, k3, _⟩ := int_of Try.underlying2 e3
  obtain ⟨fa, k4, _⟩ := int_of Try.underlying2 e4
  obtain ⟨re, k5, _⟩ := DataW.trod_bool Try.underlying4 e5
  obtain ⟨ra, k6, _⟩ := int_of Try.underlying2 e6
  obtain ⟨fi, k7, _⟩ := DataW.trod_bool Try.underlying4 e7
  obtain ⟨h34, k8, _⟩ := int_of Try.underlying21 e8
  obtain ⟨h66, k9, _⟩ := int_of Try.underlying21 e9
  obtain ⟨h65, k10, _⟩ := int_of Try.underlying21 e10
  have w1 := wf32 w1
  refine ⟨xs, la, ln, lc, lb, ts, sp, fa, re, ra, fi, h34, h66, h65, ?_, k0a, k0b, w1.1, w1.2⟩
  have h3 : cs = cs.drop 0 := by simp
  have h1 : cs.length = 11 := h1
  rw [h3, cut cs 0 1, cut cs 1 1, cut cs 2 1, cut cs 3 1, cut cs 4 1, cut cs 5 1, cut cs 6 1, cut cs 7 1, cut cs 8 1, cut cs 9 1, cut cs 10 1, List.drop_of_length_le (by omega : cs.length ≤ 10 + 1), List.append_nil]
  have d0 : (cs.drop 0).take 1 = _ := k0
  have d1 : (cs.drop 1).take 1 = _ := k1
  have d2 : (cs.drop 2).take 1 = _ := k2
  have d3 : (cs.drop 3).take 1 = _ := k3
  have d4 : (cs.drop 4).take 1 = _ := k4
  have d5 : (cs.drop 5).take 1 = _ := k5
  have d6 : (cs.drop 6).take 1 = _ := k6
  have d7 : (cs.drop 7).take 1 = _ := k7
  have d8 : (cs.drop 8).take 1 = _ := k8
  have d9 : (cs.drop 9).take 1 = _ := k9
  have d10 : (cs.drop 10).take 1 = _ := k10
  rw [d0, d1, d2, d3, d4, d5, d6, d7, d8, d9, d10]
  rfl
end

/-- What rules and a chain that statements look at are. -/
structure Ok (lb ts sp fa ra : Int) (ln n : Nat) (xs : List Int) (hs : List GH) : Prop where
  q : Rul lb ts sp fa ra
  mn : 1 ≤ ts / fa
  n1 : 1 ≤ n
  n8 : n ≤ 80
  l32 : ln ≤ 32
  x0 : xs.getD 0 0 ≠ 0
  dl : xs = (dl (be xs)).reverse
  gd : ∀ g ∈ hs, Gd g

theorem gd_of {g : GH} {T : Nat} (hT : T = tgb (g.bits / 16777216) (g.bits % 8388608)) (h0 : (Ht.dl T).length ≠ 0) (h1 : (Ht.dl T).length ≤ 32) (hb : ¬ (g.bits / 8388608 % 2 = 1 ∧ T ≠ 0)) : Gd g := by
  have hT0 : T ≠ 0 := fun e => h0 (by rw [e, dl0]; rfl)
  have hM : g.bits % 8388608 ≠ 0 := fun e => hT0 (by
    rw [hT, e, tgb]
    split
    · exact Nat.zero_div _
    · exact Nat.zero_mul _)
  have hT2 : tgo g.bits = T := hT.symm
  refine ⟨?_, hM, by rw [hT2]; exact hT0, by rw [hT2]; exact (lm_sz h1).2⟩
  have := Nat.mod_two_eq_zero_or_one (g.bits / 8388608)
  rcases this with h | h
  · exact h
  · exact absurd ⟨h, hT0⟩ hb

structure Lu where
  i : Int
  R : RO

set_option maxRecDepth 100000 in
set_option maxHeartbeats 4000000 in
theorem ruledS {P : Program} (hP : P = Try.prog) (R : RO) (la : Option Addr) (ln lc : Nat) (xs : List Int) (h : RI R .u8 la ln xs) (hc : ln ≤ lc) (lb ts sp fa : Int) (re : Bool) (ra : Int) (fi : Bool) (h34 h66 h65 : Int) (hb0 : 0 ≤ lb) (hb1 : lb < 4294967296)
    (a : Option Addr) (n c : Nat) (hs : List GH) (hl : LAt R 68 HAt a n c hs) :
    RetP P 5 [rvs la ln lc lb ts sp fa re ra fi h34 h66 h65, .slice a n c] R fun _ r => ∃ b : Bool, r = .bool b ∧ (b = true → Ok lb ts sp fa ra ln n xs hs) := by
  subst hP
  have hln := hl.len
  have hxl := h.len
  refine retP_vc (fz := []) Try.func5 rfl (by decide) rfl ok5 ?_
  intro P bin cmp cnv neg com bnot beq ofN toN at_ sub_ scmp cat sget ssz ssub elem fld_ hP hA
  conv => cbv
  have on := ofN_ hA n
  have ol := ofN_ hA ln
  have nt : bnot true = false := by rw [bnot_ hA]; rfl
  have nf : bnot false = true := by rw [bnot_ hA]; rfl
  by_cases hc1 : sp < 1
  · have c_ : cmp .lss sp 1 = true := by rw [cmp_lss hA]; exact decide_eq_true hc1
    simp (maxSteps := 10000000) only [c_]
    conv => cbv
    intro ρ R'' _ _ _
    exact ⟨false, rfl, nofun⟩
  have c1_ : cmp .lss sp 1 = false := by rw [cmp_lss hA]; exact decide_eq_false hc1
  simp (maxSteps := 10000000) only [c1_]
  conv => cbv
  by_cases hc2 : sp > 1000
  · have c_ : cmp .gtr sp 1000 = true := by rw [cmp_gtr hA]; exact decide_eq_true hc2
    simp (maxSteps := 10000000) only [c_]
    conv => cbv
    intro ρ R'' _ _ _
    exact ⟨false, rfl, nofun⟩
  have c2_ : cmp .gtr sp 1000 = false := by rw [cmp_gtr hA]; exact decide_eq_false hc2
  simp (maxSteps := 10000000) only [c2_]
  conv => cbv
  by_cases hc3 : ts < sp
  · have c_ : cmp .lss ts sp = true := by rw [cmp_lss hA]; exact decide_eq_true hc3
    simp (maxSteps := 10000000) only [c_]
    conv => cbv
    intro ρ R'' _ _ _
    exact ⟨false, rfl, nofun⟩
  have c3_ : cmp .lss ts sp = false := by rw [cmp_lss hA]; exact decide_eq_false hc3
  simp (maxSteps := 10000000) only [c3_]
  conv => cbv
  have m20 : bin .mul .i64 20 sp = 20 * sp := mul_i64 hA (by omega)
  by_cases hc4 : ts > bin .mul .i64 20 sp
  · have c_ : cmp .gtr ts (bin .mul .i64 20 sp) = true := by rw [cmp_gtr hA]; exact decide_eq_true hc4
    simp (maxSteps := 10000000) only [c_]
    conv => cbv
    intro ρ R'' _ _ _
    exact ⟨false, rfl, nofun⟩
  have c4_ : cmp .gtr ts (bin .mul .i64 20 sp) = false := by rw [cmp_gtr hA]; exact decide_eq_false hc4
  simp (maxSteps := 10000000) only [c4_]
  conv => cbv
  by_cases hc5 : fa < 1
  · have c_ : cmp .lss fa 1 = true := by rw [cmp_lss hA]; exact decide_eq_true hc5
    simp (maxSteps := 10000000) only [c_]
    conv => cbv
    intro ρ R'' _ _ _
    exact ⟨false, rfl, nofun⟩
  have c5_ : cmp .lss fa 1 = false := by rw [cmp_lss hA]; exact decide_eq_false hc5
  simp (maxSteps := 10000000) only [c5_]
  conv => cbv
  by_cases hc6 : fa > 8
  · have c_ : cmp .gtr fa 8 = true := by rw [cmp_gtr hA]; exact decide_eq_true hc6
    simp (maxSteps := 10000000) only [c_]
    conv => cbv
    intro ρ R'' _ _ _
    exact ⟨false, rfl, nofun⟩
  have c6_ : cmp .gtr fa 8 = false := by rw [cmp_gtr hA]; exact decide_eq_false hc6
  simp (maxSteps := 10000000) only [c6_]
  conv => cbv
  refine ⟨by omega, ?_⟩
  have qtf : bin .quo .i64 ts fa = ts / fa := quo_i64 hA (by omega) (by omega) (by omega)
  by_cases hc7 : bin .quo .i64 ts fa < 1
  · have c_ : cmp .lss (bin .quo .i64 ts fa) 1 = true := by rw [cmp_lss hA]; exact decide_eq_true hc7
    simp (maxSteps := 10000000) only [c_]
    conv => cbv
    intro ρ R'' _ _ _
    exact ⟨false, rfl, nofun⟩
  have c7_ : cmp .lss (bin .quo .i64 ts fa) 1 = false := by rw [cmp_lss hA]; exact decide_eq_false hc7
  simp (maxSteps := 10000000) only [c7_]
  conv => cbv
  by_cases hc8 : ra < 0
  · have c_ : cmp .lss ra 0 = true := by rw [cmp_lss hA]; exact decide_eq_true hc8
    simp (maxSteps := 10000000) only [c_]
    conv => cbv
    intro ρ R'' _ _ _
    exact ⟨false, rfl, nofun⟩
  have c8_ : cmp .lss ra 0 = false := by rw [cmp_lss hA]; exact decide_eq_false hc8
  simp (maxSteps := 10000000) only [c8_]
  conv => cbv
  by_cases hc9 : ra > 1048576
  · have c_ : cmp .gtr ra 1048576 = true := by rw [cmp_gtr hA]; exact decide_eq_true hc9
    simp (maxSteps := 10000000) only [c_]
    conv => cbv
    intro ρ R'' _ _ _
    exact ⟨false, rfl, nofun⟩
  have c9_ : cmp .gtr ra 1048576 = false := by rw [cmp_gtr hA]; exact decide_eq_false hc9
  simp (maxSteps := 10000000) only [c9_]
  conv => cbv
  by_cases hc10 : (n : Int) < 1
  · have c_ : cmp .lss (ofN n) 1 = true := by rw [on, cmp_lss hA]; exact decide_eq_true hc10
    simp (maxSteps := 10000000) only [c_]
    conv => cbv
    intro ρ R'' _ _ _
    exact ⟨false, rfl, nofun⟩
  have c10_ : cmp .lss (ofN n) 1 = false := by rw [on, cmp_lss hA]; exact decide_eq_false hc10
  simp (maxSteps := 10000000) only [c10_]
  conv => cbv
  by_cases hc11 : (n : Int) > 80
  · have c_ : cmp .gtr (ofN n) 80 = true := by rw [on, cmp_gtr hA]; exact decide_eq_true hc11
    simp (maxSteps := 10000000) only [c_]
    conv => cbv
    intro ρ R'' _ _ _
    exact ⟨false, rfl, nofun⟩
  have c11_ : cmp .gtr (ofN n) 80 = false := by rw [on, cmp_gtr hA]; exact decide_eq_false hc11
  simp (maxSteps := 10000000) only [c11_]
  conv => cbv
  refine ⟨[0, 1, 2, 3, 4, 5, 6, 7, 8, 9, 10, 11, 12, 13, 14, 15, 16, 17], [], mix hP, by kernel_rfl, ?_⟩
  conv => cbv
  refine (greatS hP R la ln lc xs h hc).callQ rfl ?_
  rintro _ ⟨bg, rfl, hbg⟩
  conv => cbv
  refine ⟨⟨⟨rfl, trivial⟩, .refl _⟩, ?_⟩
  conv => cbv
  cases bg with
  | false =>
    simp (maxSteps := 10000000) only [nf]
    conv => cbv
    intro ρ R'' _ _ _
    exact ⟨false, rfl, nofun⟩
  | true =>
    obtain ⟨hg32, hgx⟩ := hbg rfl
    simp (maxSteps := 10000000) only [nt]
    conv => cbv
    by_cases hl0 : ln = 0
    · have c_ : cmp .eql (ofN ln) 0 = true := by rw [ol, hl0, cmp_eql hA]; rfl
      simp (maxSteps := 10000000) only [c_]
      conv => cbv
      intro ρ R'' _ _ _
      exact ⟨false, rfl, nofun⟩
    have c_ : cmp .eql (ofN ln) 0 = false := by rw [ol, cmp_eql hA]; exact beq_false_of_ne (by omega)
    simp (maxSteps := 10000000) only [c_]
    conv => cbv
    have hx0 := hgx hl0
    have hxd : xs = (dl (be xs)).reverse := be_dl (By.of_wf h.wf) (.inr (by
      cases xs with
      | nil => exact absurd (by rw [hxl]; rfl) hl0
      | cons y ys => exact hx0))
    obtain ⟨CX, hCX⟩ : ∃ CX, CX = cmpt (be xs) := ⟨_, rfl⟩
    refine (compactS hP R la ln lc (be xs) xs h hc (by omega) hxd (fun _ => hx0) CX hCX).callQ rfl ?_
    rintro _ ⟨ci, rfl, -⟩
    conv => cbv
    refine ⟨⟨⟨rfl, trivial⟩, .refl _⟩, ?_⟩
    conv => cbv
    obtain ⟨bq, hbq⟩ : ∃ b, cmp .neq lb ci = b := ⟨_, rfl⟩
    simp (maxSteps := 10000000) only [hbq]
    cases bq with
    | true =>
      conv => cbv
      intro ρ R'' _ _ _
      exact ⟨false, rfl, nofun⟩
    | false =>
      conv => cbv
      refine ⟨Lu, fun x => ⟨[(5, .v (.int .i64 x.i)), (1, .v (.slice a n c))], x.R, [(0, ⟨25, [.v (.slice la ln lc), .v (.int .u32 lb), .v (.int .i64 ts), .v (.int .i64 sp), .v (.int .i64 fa), .v (.bool re), .v (.int .i64 ra), .v (.bool fi), .v (.int .i32 h34), .v (.int .i32 h66), .v (.int .i32 h65)]⟩)], 1, []⟩,
        fun k x => ∃ j : Nat, x.i = j ∧ j ≤ n ∧ k = n - j ∧ R.le x.R ∧ ∀ i, i < j → ∀ g, hs[i]? = some g → Gd g,
        ⟨n, ⟨0, R⟩, ⟨⟨rfl, rfl, trivial⟩, rfl, ⟨rfl, trivial⟩, rfl, .refl _⟩, 0, rfl, Nat.zero_le _, rfl, RO.le_refl R, fun i hi => absurd hi (Nat.not_lt_zero i)⟩, ?_⟩
      rintro k ⟨xi, R5⟩ ⟨j, hj, hjn, hk, hle, hgd⟩
      simp only at hj hle
      conv => cbv
      by_cases hlt : j < n
      case neg =>
        refine br_f (by rw [on, cmp_lss hA]; simp; omega) ?_
        conv => cbv
        have hmn1 : 1 ≤ ts / fa := by rw [← qtf]; omega
        have hall : ∀ g ∈ hs, Gd g := fun g hg => by
          obtain ⟨i, hi⟩ := List.getElem?_of_mem hg
          have hil : i < hs.length := by
            rcases Nat.lt_or_ge i hs.length with h | h
            · exact h
            · rw [List.getElem?_eq_none h] at hi; cases hi
          exact hgd i (by omega) g hi
        have hok : Ok lb ts sp fa ra ln n xs hs := ⟨⟨hb0, hb1, by omega, by omega, by omega, by rw [m20] at hc4; omega, by omega, by omega, by omega, by omega⟩, hmn1, by omega, by omega, hg32, hx0, hxd, hall⟩
        intro ρ R'' _ _ _
        exact ⟨true, rfl, fun _ => hok⟩
      refine br_t (by rw [on, cmp_lss hA]; simp; omega) ?_
      conv => cbv
      obtain ⟨g, hgg⟩ : ∃ g, hs[j]? = some g := ⟨_, List.getElem?_eq_getElem (by omega)⟩
      have hl5 := hl.le hle HAt.le
      refine ix_at hA hl5 j hj hlt ?_
      refine ld_fld hA hl5 j hj hgg 66 ?_
      intro cs _ hcs
      obtain ⟨-, ⟨bi, hbi, hbi2⟩, -, hbl⟩ := hcs.fld
      refine ⟨_, hbi, ?_⟩
      conv => cbv
      obtain ⟨T, hT⟩ : ∃ T, T = tgb (g.bits / 16777216) (g.bits % 8388608) := ⟨_, rfl⟩
      refine (targetS hP R5 g.bits (g.bits / 16777216) (g.bits % 8388608) bi hbi2 rfl rfl hbl T hT).callP rfl ?_
      rintro R6 _ hR6 ⟨a9, n9, c9, bl, rfl, hr9, -, hbb⟩
      conv => cbv
      have o9 := ofN_ hA n9
      cases bl with
      | true =>
        conv => cbv
        intro ρ R'' _ _ _
        exact ⟨false, rfl, nofun⟩
      | false =>
        conv => cbv
        by_cases h90 : n9 = 0
        · have c_ : cmp .eql (ofN n9) 0 = true := by rw [o9, h90, cmp_eql hA]; rfl
          simp (maxSteps := 10000000) only [c_]
          conv => cbv
          intro ρ R'' _ _ _
          exact ⟨false, rfl, nofun⟩
        have c9e : cmp .eql (ofN n9) 0 = false := by rw [o9, cmp_eql hA]; exact beq_false_of_ne (by omega)
        simp (maxSteps := 10000000) only [c9e]
        conv => cbv
        by_cases h932 : n9 ≤ 32
        case neg =>
          refine br_t (by rw [o9, cmp_gtr hA]; simp; omega) ?_
          conv => cbv
          intro ρ R'' _ _ _
          exact ⟨false, rfl, nofun⟩
        refine br_f (by rw [o9, cmp_gtr hA]; simp; omega) ?_
        conv => cbv
        have hgdj : Gd g := gd_of hT (by rw [← List.length_reverse, ← hr9.len]; exact h90) (by rw [← List.length_reverse, ← hr9.len]; exact h932) (fun h => by have := hbb.2 h; cases this)
        have hxj : bin .add .i64 xi 1 = ((j + 1 : Nat) : Int) := by rw [hj, add_i64 hA (by omega)]; rfl
        exact ⟨n - (j + 1), ⟨bin .add .i64 xi 1, R6⟩, by omega, ⟨⟨rfl, rfl, trivial⟩, rfl, ⟨rfl, trivial⟩, rfl, .refl _⟩, j + 1, hxj, hlt, rfl, RO.le_trans hle hR6, fun i hi g2 hg2 => by
          rcases Nat.lt_or_ge i j with h | h
          · exact hgd i h g2 hg2
          · obtain rfl : i = j := by omega
            rw [hgg] at hg2
            injection hg2 with hg2
            rw [← hg2]
            exact hgdj⟩
end Go.Proofs.Ytekoipmmmoofpaa.Co
