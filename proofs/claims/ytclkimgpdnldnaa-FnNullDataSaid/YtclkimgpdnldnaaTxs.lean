/- The size of a transaction, roughly. -/
import Derived.Test.YtclkimgpdnldnaaTxf
set_option linter.unusedSimpArgs false
set_option linter.unusedVariables false
namespace Go.Proofs.Ytclkimgpdnldnaa.Tx
open Go Go.Se Go.Proofs Go.Proofs.Ytclkimgpdnldnaa.Tytx

theorem mix {P : Program} (hP : P = Try.prog) : P.follows .mixedOrders = true := by subst hP; rfl

def capn (m : Nat) : Nat := if m ≤ 100000 then m else 100001

theorem capn_le (m : Nat) : capn m ≤ 100001 := by unfold capn; split <;> omega

def wsz (w : List Int) : Nat := 9 + w.length
def isz (g : GIn) : Nat := 50 + g.script.length + (g.wit.map wsz).sum
def osz (g : GOut) : Nat := 17 + g.pk.length
def tsz (g : GTx) : Nat := 10 + (g.ins.map isz).sum + (g.outs.map osz).sum

theorem sum_succ {α : Type} (f : α → Nat) {l : List α} {i : Nat} {x : α} (h : l[i]? = some x) : ((l.take (i + 1)).map f).sum = ((l.take i).map f).sum + f x := by
  rw [List.take_add_one, h]
  simp

theorem sum_le {α : Type} (f : α → Nat) (l : List α) (i : Nat) : ((l.take i).map f).sum ≤ (l.map f).sum := by
  conv => rhs; rw [← List.take_append_drop i l]
  rw [List.map_append, List.sum_append]
  omega

theorem sum_all {α : Type} (f : α → Nat) {l : List α} {i : Nat} (h : l.length ≤ i) : ((l.take i).map f).sum = (l.map f).sum := by rw [List.take_of_length_le h]

theorem len_sum {α : Type} (f : α → Nat) (l : List α) (h : ∀ x ∈ l, 1 ≤ f x) : l.length ≤ (l.map f).sum := by
  induction l with
  | nil => simp
  | cons x l ih =>
    have := h x (by simp)
    have := ih fun y hy => h y (by simp [hy])
    simp only [List.map_cons, List.sum_cons, List.length_cons]
    omega

theorem mem_sum {α : Type} (f : α → Nat) {l : List α} {x : α} (h : x ∈ l) : f x ≤ (l.map f).sum := by
  induction l with
  | nil => cases h
  | cons y l ih =>
    simp only [List.map_cons, List.sum_cons]
    rcases List.mem_cons.1 h with rfl | h
    · omega
    · have := ih h; omega


set_option maxRecDepth 100000 in
theorem more {P : Program} (hP : P = Try.prog) (R : RO) (n b : Int) (m k : Nat) (hn : n = capn m) (hb : b = k) :
    RetP P 49 [.int .i64 n, .int .i64 b] R fun _ v => ∃ r, v = .int .i64 r ∧ r = capn (m + k) := by
  subst hP
  have hm := capn_le m
  have hc : capn (m + k) = if capn m ≤ 100000 ∧ capn m + k ≤ 100000 then capn m + k else 100001 := by
    unfold capn
    by_cases h : m ≤ 100000
    · simp [h]
    · simp [h]
      omega
  refine retP_vc (fz := []) Try.func49 rfl (by decide) rfl ok49 ?_
  intro P bin cmp cnv neg com bnot beq ofN toN at_ sub_ scmp cat sget ssz ssub elem fld_ hP hA
  conv => cbv
  by_cases h1 : n > 100000
  · have c1 : cmp .gtr n 100000 = true := by rw [cmp_gtr hA]; simp; omega
    simp only [c1]
    conv => cbv
    intro ρ R'' _ _ _
    refine ⟨_, rfl, ?_⟩
    show (100001 : Int) = _
    rw [hc, if_neg (by omega)]
    rfl
  have c1 : cmp .gtr n 100000 = false := by rw [cmp_gtr hA]; simp; omega
  simp only [c1]
  conv => cbv
  by_cases h2 : b > 100000
  · have c2 : cmp .gtr b 100000 = true := by rw [cmp_gtr hA]; simp; omega
    simp only [c2]
    conv => cbv
    intro ρ R'' _ _ _
    refine ⟨_, rfl, ?_⟩
    show (100001 : Int) = _
    rw [hc, if_neg (by omega)]
    rfl
  have c2 : cmp .gtr b 100000 = false := by rw [cmp_gtr hA]; simp; omega
  simp only [c2]
  conv => cbv
  have e : bin .add .i64 n b = n + b := add_i64 hA (by omega)
  by_cases h3 : n + b > 100000
  · have c3 : cmp .gtr (bin .add .i64 n b) 100000 = true := by rw [e, cmp_gtr hA]; simp; omega
    simp only [c3]
    conv => cbv
    intro ρ R'' _ _ _
    refine ⟨_, rfl, ?_⟩
    show (100001 : Int) = _
    rw [hc, if_neg (by omega)]
    rfl
  · have c3 : cmp .gtr (bin .add .i64 n b) 100000 = false := by rw [e, cmp_gtr hA]; simp; omega
    simp only [c3]
    conv => cbv
    intro ρ R'' _ _ _
    refine ⟨_, rfl, ?_⟩
    show bin .add .i64 n b = ((capn (m + k) : Nat) : Int)
    rw [e, hc, if_pos (by omega)]
    omega

theorem capn_top {m m' : Nat} (h : capn m > 100000) (hl : m ≤ m') : capn m' = capn m := by
  unfold capn at *
  split at h
  · omega
  · rw [if_neg (by omega), if_neg (by omega)]




set_option maxRecDepth 100000 in
set_option maxHeartbeats 1000000 in
theorem txSize {P : Program} (hP : P = Try.prog) (R : RO) (cs : List Value) (g : GTx) (h : TxAt R cs g) : RetP P 17 [.agg cs.toArray] R fun _ v => ∃ n : Int, v = .int .i64 n ∧ n = capn (tsz g) := by
  subst hP
  obtain ⟨a, n, c, a2, n2, cc, rfl, h1, h2, h3, h4⟩ := h
  obtain ⟨ver, ins, outs, lock⟩ := g
  simp only at h1 h2 h3 h4 ⊢
  have hl3 := h3.len
  have hl4 := h4.len
  have hm3 := h3.mx
  have hm4 := h4.mx
  unfold maxLen at hm3 hm4
  refine retP_vc (fz := []) Try.func17 rfl (by decide) rfl ok17 ?_
  intro P bin cmp cnv neg com bnot beq ofN toN at_ sub_ scmp cat sget ssz ssub elem fld_ hP hA
  conv => cbv
  have o := ofN_ hA n
  have o2 := ofN_ hA n2
  -- the inputs
  refine ⟨Int × Int, fun x => ⟨[(3, .v (.int .i64 x.1)), (4, .v (.int .i64 x.2)), (1, .p 0 0)], R, [(0, ⟨32, [.v (.int .i32 ver), .v (.slice a n c), .v (.slice a2 n2 cc), .v (.int .u32 lock)]⟩)], 1, []⟩,
    fun k x => ∃ i : Nat, x.2 = i ∧ i ≤ n ∧ k = n - i ∧ x.1 = (capn (10 + ((ins.take i).map isz).sum) : Nat), ⟨n, (10, 0), ⟨⟨rfl, rfl, rfl, trivial⟩, rfl, ⟨rfl, trivial⟩, rfl, .refl _⟩, 0, rfl, by omega, rfl, rfl⟩, ?_⟩
  rintro k ⟨x, y⟩ ⟨i, hy, hi, hk, hn⟩
  simp only at hy hn
  conv => cbv
  by_cases hlt : i < n
  case neg =>
    have c1 : cmp .lss y (ofN n) = false := by rw [o, cmp_lss hA]; simp; omega
    simp only [c1]
    conv => cbv
    have hx : x = ((capn (10 + (ins.map isz).sum + ((outs.take 0).map osz).sum) : Nat) : Int) := by rw [hn, sum_all isz (by omega)]; simp
    refine ⟨Int × Int, fun x => ⟨[(3, .v (.int .i64 x.1)), (6, .v (.int .i64 x.2)), (1, .p 0 0)], R, [(0, ⟨32, [.v (.int .i32 ver), .v (.slice a n c), .v (.slice a2 n2 cc), .v (.int .u32 lock)]⟩)], 1, []⟩,
      fun k x => ∃ i : Nat, x.2 = i ∧ i ≤ n2 ∧ k = n2 - i ∧ x.1 = (capn (10 + (ins.map isz).sum + ((outs.take i).map osz).sum) : Nat), ⟨n2, (x, 0), ⟨⟨rfl, rfl, rfl, trivial⟩, rfl, ⟨rfl, trivial⟩, rfl, .refl _⟩, 0, rfl, by omega, rfl, hx⟩, ?_⟩
    rintro k2 ⟨x2, y2⟩ ⟨i2, hy2, hi2, hk2, hn2⟩
    simp only at hy2 hn2
    conv => cbv
    by_cases hlt2 : i2 < n2
    case neg =>
      have c1 : cmp .lss y2 (ofN n2) = false := by rw [o2, cmp_lss hA]; simp; omega
      simp only [c1]
      conv => cbv
      intro ρ R'' _ _ _
      refine ⟨_, rfl, ?_⟩
      show x2 = ((capn (tsz _) : Nat) : Int)
      rw [hn2, sum_all osz (by omega)]
      rfl
    have c1 : cmp .lss y2 (ofN n2) = true := by rw [o2, cmp_lss hA]; simp; omega
    simp only [c1]
    conv => cbv
    by_cases hle2 : x2 ≤ 100000
    case neg =>
      have c2 : cmp .leq x2 100000 = false := by rw [cmp_leq hA]; simp; omega
      simp only [c2]
      conv => cbv
      intro ρ R'' _ _ _
      refine ⟨_, rfl, ?_⟩
      show x2 = ((capn (tsz _) : Nat) : Int)
      rw [hn2]
      refine congrArg Int.ofNat (capn_top (by omega) ?_).symm
      have := sum_le osz outs i2
      simp only [tsz]
      omega
    have c2 : cmp .leq x2 100000 = true := by rw [cmp_leq hA]; simp; omega
    simp only [c2]
    conv => cbv
    refine ⟨[0, 2, 3, 4, 5, 6, 7, 8, 1, 9, 10], [], mix hP, by kernel_rfl, ?_⟩
    conv => cbv
    refine ix_at hA h4 i2 hy2 hlt2 ?_
    obtain ⟨q, hxq⟩ : ∃ q, outs[i2]? = some q := ⟨_, List.getElem?_eq_getElem (by omega)⟩
    refine ld_fld hA h4 i2 hy2 hxq 1 ?_
    rintro _ - ⟨a6, n6, c6, rfl, g1, g2, g3⟩
    refine ⟨_, rfl, ?_⟩
    conv => cbv
    have o6 := ofN_ hA n6
    refine (more hP R x2 17 _ 17 hn2 rfl).callQ rfl ?_
    rintro _ ⟨r1, rfl, e1⟩
    conv => cbv
    refine ⟨⟨⟨rfl, trivial⟩, .refl _⟩, ?_⟩
    refine (more hP R r1 (ofN n6) _ n6 e1 o6).callQ rfl ?_
    rintro _ ⟨r2, rfl, e2⟩
    conv => cbv
    refine ⟨⟨⟨rfl, trivial⟩, .refl _⟩, ?_⟩
    refine ⟨n2 - (i2 + 1), (r2, y2 + 1), by omega, ⟨⟨rfl, ?_, rfl, trivial⟩, rfl, ⟨rfl, trivial⟩, rfl, .refl _⟩, i2 + 1, by show y2 + 1 = ((i2 + 1 : Nat) : Int); omega, by omega, rfl, ?_⟩
    · rw [add_i64 hA (by omega)]
      rfl
    · show r2 = ((capn (10 + (ins.map isz).sum + ((outs.take (i2 + 1)).map osz).sum) : Nat) : Int)
      rw [e2, sum_succ osz hxq, g2.len]
      simp only [osz, Nat.add_assoc]
  have c1 : cmp .lss y (ofN n) = true := by rw [o, cmp_lss hA]; simp; omega
  simp only [c1]
  conv => cbv
  by_cases hle : x ≤ 100000
  case neg =>
    have c2 : cmp .leq x 100000 = false := by rw [cmp_leq hA]; simp; omega
    simp only [c2]
    conv => cbv
    have hx : x = ((capn (10 + (ins.map isz).sum + ((outs.take 0).map osz).sum) : Nat) : Int) := by
      rw [hn]
      refine congrArg Int.ofNat (capn_top (by omega) ?_).symm
      have := sum_le isz ins i
      simp only [List.take_zero, List.map_nil, List.sum_nil]
      omega
    refine ⟨Int × Int, fun x => ⟨[(3, .v (.int .i64 x.1)), (6, .v (.int .i64 x.2)), (1, .p 0 0)], R, [(0, ⟨32, [.v (.int .i32 ver), .v (.slice a n c), .v (.slice a2 n2 cc), .v (.int .u32 lock)]⟩)], 1, []⟩,
      fun k x => ∃ i : Nat, x.2 = i ∧ i ≤ n2 ∧ k = n2 - i ∧ x.1 = (capn (10 + (ins.map isz).sum + ((outs.take i).map osz).sum) : Nat), ⟨n2, (x, 0), ⟨⟨rfl, rfl, rfl, trivial⟩, rfl, ⟨rfl, trivial⟩, rfl, .refl _⟩, 0, rfl, by omega, rfl, hx⟩, ?_⟩
    rintro k2 ⟨x2, y2⟩ ⟨i2, hy2, hi2, hk2, hn2⟩
    simp only at hy2 hn2
    conv => cbv
    by_cases hlt2 : i2 < n2
    case neg =>
      have c1 : cmp .lss y2 (ofN n2) = false := by rw [o2, cmp_lss hA]; simp; omega
      simp only [c1]
      conv => cbv
      intro ρ R'' _ _ _
      refine ⟨_, rfl, ?_⟩
      show x2 = ((capn (tsz _) : Nat) : Int)
      rw [hn2, sum_all osz (by omega)]
      rfl
    have c1 : cmp .lss y2 (ofN n2) = true := by rw [o2, cmp_lss hA]; simp; omega
    simp only [c1]
    conv => cbv
    by_cases hle2 : x2 ≤ 100000
    case neg =>
      have c2 : cmp .leq x2 100000 = false := by rw [cmp_leq hA]; simp; omega
      simp only [c2]
      conv => cbv
      intro ρ R'' _ _ _
      refine ⟨_, rfl, ?_⟩
      show x2 = ((capn (tsz _) : Nat) : Int)
      rw [hn2]
      refine congrArg Int.ofNat (capn_top (by omega) ?_).symm
      have := sum_le osz outs i2
      simp only [tsz]
      omega
    have c2 : cmp .leq x2 100000 = true := by rw [cmp_leq hA]; simp; omega
    simp only [c2]
    conv => cbv
    refine ⟨[0, 2, 3, 4, 5, 6, 7, 8, 1, 9, 10], [], mix hP, by kernel_rfl, ?_⟩
    conv => cbv
    refine ix_at hA h4 i2 hy2 hlt2 ?_
    obtain ⟨q, hxq⟩ : ∃ q, outs[i2]? = some q := ⟨_, List.getElem?_eq_getElem (by omega)⟩
    refine ld_fld hA h4 i2 hy2 hxq 1 ?_
    rintro _ - ⟨a6, n6, c6, rfl, g1, g2, g3⟩
    refine ⟨_, rfl, ?_⟩
    conv => cbv
    have o6 := ofN_ hA n6
    refine (more hP R x2 17 _ 17 hn2 rfl).callQ rfl ?_
    rintro _ ⟨r1, rfl, e1⟩
    conv => cbv
    refine ⟨⟨⟨rfl, trivial⟩, .refl _⟩, ?_⟩
    refine (more hP R r1 (ofN n6) _ n6 e1 o6).callQ rfl ?_
    rintro _ ⟨r2, rfl, e2⟩
    conv => cbv
    refine ⟨⟨⟨rfl, trivial⟩, .refl _⟩, ?_⟩
    refine ⟨n2 - (i2 + 1), (r2, y2 + 1), by omega, ⟨⟨rfl, ?_, rfl, trivial⟩, rfl, ⟨rfl, trivial⟩, rfl, .refl _⟩, i2 + 1, by show y2 + 1 = ((i2 + 1 : Nat) : Int); omega, by omega, rfl, ?_⟩
    · rw [add_i64 hA (by omega)]
      rfl
    · show r2 = ((capn (10 + (ins.map isz).sum + ((outs.take (i2 + 1)).map osz).sum) : Nat) : Int)
      rw [e2, sum_succ osz hxq, g2.len]
      simp only [osz, Nat.add_assoc]
  have c2 : cmp .leq x 100000 = true := by rw [cmp_leq hA]; simp; omega
  simp only [c2]
  conv => cbv
  refine ⟨[0, 2, 3, 4, 5, 6, 7, 8, 1, 9, 10], [], mix hP, by kernel_rfl, ?_⟩
  conv => cbv
  refine ix_at hA h3 i hy hlt ?_
  obtain ⟨q, hxq⟩ : ∃ q, ins[i]? = some q := ⟨_, List.getElem?_eq_getElem (by omega)⟩
  refine ld_fld hA h3 i hy hxq 33 ?_
  rintro _ - ⟨a6, n6, c6, a7, n7, c7, rfl, g0, g1, g2, g3, g4, g5, g6⟩
  refine ⟨.slice a6 n6 c6, by rw [List.getElem?_append_right (by rw [ints_len, g0]; omega), ints_len, g0]; rfl, ?_⟩
  conv => cbv
  have o6 := ofN_ hA n6
  have o7 := ofN_ hA n7
  have hm7 := g6.mx
  have hl7 := g6.len
  unfold maxLen at hm7
  refine (more hP R x 50 _ 50 hn rfl).callQ rfl ?_
  rintro _ ⟨r1, rfl, e1⟩
  conv => cbv
  refine ⟨⟨⟨rfl, trivial⟩, .refl _⟩, ?_⟩
  refine (more hP R r1 (ofN n6) _ n6 e1 o6).callQ rfl ?_
  rintro _ ⟨r2, rfl, e2⟩
  conv => cbv
  refine ⟨⟨⟨rfl, trivial⟩, .refl _⟩, ?_⟩
  obtain ⟨base, hb⟩ : ∃ base, base = 10 + ((ins.take i).map isz).sum + 50 + n6 := ⟨_, rfl⟩
  rw [← hb] at e2
  have hsum : 10 + ((ins.take (i + 1)).map isz).sum = base + (q.wit.map wsz).sum := by
    rw [sum_succ isz hxq, hb, g4.len]
    simp only [isz]
    omega
  have hld : ∀ v, (ints .u8 q.hash ++ [.int .u32 q.idx, .slice a6 n6 c6, .slice a7 n7 c7, .int .u32 q.seq])[34]? = some v → v = .slice a7 n7 c7 := fun v hv => by
    rw [List.getElem?_append_right (by rw [ints_len, g0]; omega), ints_len, g0] at hv
    simpa using hv.symm
  clear e1 hn
  refine ⟨Int × Int, fun x => ⟨[(3, .v (.int .i64 x.1)), (5, .v (.int .i64 x.2)), (4, .v (.int .i64 y)), (1, .p 0 0)], R, [(0, ⟨32, [.v (.int .i32 ver), .v (.slice a n c), .v (.slice a2 n2 cc), .v (.int .u32 lock)]⟩)], 1, []⟩,
    fun k x => ∃ j : Nat, x.2 = j ∧ j ≤ n7 ∧ k = n7 - j ∧ x.1 = (capn (base + ((q.wit.take j).map wsz).sum) : Nat), ⟨n7, (r2, 0), ⟨⟨rfl, rfl, rfl, rfl, trivial⟩, rfl, ⟨rfl, trivial⟩, rfl, .refl _⟩, 0, rfl, by omega, rfl, e2⟩, ?_⟩
  rintro k3 ⟨x3, y3⟩ ⟨j, hy3, hj, hk3, hn3⟩
  simp only at hy3 hn3
  conv => cbv
  refine ix_at hA h3 i hy hlt ?_
  refine ld_fld hA h3 i hy hxq 34 ?_
  rintro _ - ⟨a8, n8, c8, a9, n9, c9, rfl, k0, k1, k2, k3, k4, k5, k6⟩
  refine ⟨.slice a9 n9 c9, by rw [List.getElem?_append_right (by rw [ints_len, k0]; omega), ints_len, k0]; rfl, ?_⟩
  conv => cbv
  have o9 := ofN_ hA n9
  have hm9 := k6.mx
  have hl9 := k6.len
  unfold maxLen at hm9
  have h97 : n9 = n7 := by omega
  by_cases hlt3 : j < n7
  case neg =>
    have c5 : cmp .lss y3 (ofN n9) = false := by rw [o9, cmp_lss hA]; simp; omega
    simp only [c5]
    conv => cbv
    refine ⟨n - (i + 1), (x3, y + 1), by omega, ⟨⟨rfl, ?_, rfl, trivial⟩, rfl, ⟨rfl, trivial⟩, rfl, .refl _⟩, i + 1, by show y + 1 = ((i + 1 : Nat) : Int); omega, by omega, rfl, ?_⟩
    · rw [add_i64 hA (by omega)]
      rfl
    show x3 = ((capn (10 + ((ins.take (i + 1)).map isz).sum) : Nat) : Int)
    rw [hn3, hsum, sum_all wsz (by omega)]
  have c5 : cmp .lss y3 (ofN n9) = true := by rw [o9, cmp_lss hA]; simp; omega
  simp only [c5]
  conv => cbv
  by_cases hle3 : x3 ≤ 100000
  case neg =>
    have c6 : cmp .leq x3 100000 = false := by rw [cmp_leq hA]; simp; omega
    simp only [c6]
    conv => cbv
    refine ⟨n - (i + 1), (x3, y + 1), by omega, ⟨⟨rfl, ?_, rfl, trivial⟩, rfl, ⟨rfl, trivial⟩, rfl, .refl _⟩, i + 1, by show y + 1 = ((i + 1 : Nat) : Int); omega, by omega, rfl, ?_⟩
    · rw [add_i64 hA (by omega)]
      rfl
    show x3 = ((capn (10 + ((ins.take (i + 1)).map isz).sum) : Nat) : Int)
    rw [hn3, hsum]
    refine congrArg Int.ofNat (capn_top (by omega) ?_).symm
    have := sum_le wsz q.wit j
    omega
  have c6 : cmp .leq x3 100000 = true := by rw [cmp_leq hA]; simp; omega
  simp only [c6]
  conv => cbv
  refine ⟨[0, 2, 3, 4, 5, 6, 7, 8, 9, 10, 11, 1, 12, 13], [], mix hP, by kernel_rfl, ?_⟩
  conv => cbv
  refine ix_at hA h3 i hy hlt ?_
  refine ld_fld hA h3 i hy hxq 34 ?_
  rintro _ - ⟨b8, m8, d8, b9, m9, d9, rfl, l0, l1, l2, l3, l4, l5, l6⟩
  refine ⟨.slice b9 m9 d9, by rw [List.getElem?_append_right (by rw [ints_len, l0]; omega), ints_len, l0]; rfl, ?_⟩
  conv => cbv
  have hl10 := l6.len
  refine ix_at hA l6 j hy3 (by omega) ?_
  obtain ⟨u, hu⟩ : ∃ u, q.wit[j]? = some u := ⟨_, List.getElem?_eq_getElem (by omega)⟩
  refine ld_elem hA l6 j hy3 hu ?_
  rintro _ - ⟨b, m, d, rfl, f1, f2⟩
  refine ⟨_, rfl, ?_⟩
  conv => cbv
  have om := ofN_ hA m
  refine (more hP R x3 9 _ 9 hn3 rfl).callQ rfl ?_
  rintro _ ⟨r4, rfl, e4⟩
  conv => cbv
  refine ⟨⟨⟨rfl, trivial⟩, .refl _⟩, ?_⟩
  refine (more hP R r4 (ofN m) _ m e4 om).callQ rfl ?_
  rintro _ ⟨r5, rfl, e5⟩
  conv => cbv
  refine ⟨⟨⟨rfl, trivial⟩, .refl _⟩, ?_⟩
  refine ⟨n7 - (j + 1), (r5, y3 + 1), by omega, ⟨⟨rfl, ?_, rfl, rfl, trivial⟩, rfl, ⟨rfl, trivial⟩, rfl, .refl _⟩, j + 1, by show y3 + 1 = ((j + 1 : Nat) : Int); omega, by omega, rfl, ?_⟩
  · rw [add_i64 hA (by omega)]
    rfl
  · show r5 = ((capn (base + ((q.wit.take (j + 1)).map wsz).sum) : Nat) : Int)
    rw [e5, sum_succ wsz hu, f1.len]
    simp only [wsz, Nat.add_assoc]
end Go.Proofs.Ytclkimgpdnldnaa.Tx
