/- Long division by two digits: plain. -/
import Derived.Test.YtepfbdfbfimefaaDoorCoc
set_option linter.unusedSimpArgs false
set_option linter.unusedVariables false
set_option linter.unusedSectionVars false
namespace Go.Proofs.YtepfbdfbfimefaaDoor.Bf
open Go Go.Se Go.Proofs.YtepfbdfbfimefaaDoor.Co

theorem dist3 (p v1 v0 B : Nat) : p * (v1 * B + v0) = p * v1 * B + p * v0 := by rw [Nat.mul_add, Nat.mul_assoc]

theorem kn_next {N V Q W M : Nat} (hW : W = N / Q) (hV : 0 < V) (hQ : 0 < Q) (hM : M + W * Q = N + (W % V) * Q) : M + W / V * V * Q = N ∧ M < V * Q := by
  have e1 : W * Q + N % Q = N := by rw [hW]; exact Nat.div_add_mod' N Q
  have e2 : W / V * V + W % V = W := Nat.div_add_mod' W V
  have e3 : W / V * V * Q + W % V * Q = W * Q := by rw [← Nat.add_mul, e2]
  have e4 : (W % V + 1) * Q ≤ V * Q := Nat.mul_le_mul_right _ (Nat.mod_lt _ hV)
  rw [Nat.add_mul, Nat.one_mul] at e4
  have e5 := Nat.mod_lt N hQ
  generalize W / V * V * Q = A at *
  generalize W % V * Q = B at *
  generalize W * Q = C at *
  generalize V * Q = D at *
  generalize N % Q = E at *
  constructor <;> omega

section
variable {a v1 v0 u0 V W p t : Nat} (hV : V = v1 * 4294967296 + v0) (hW : W = a * 4294967296 + u0) (hu0 : u0 < 4294967296) (hv0 : v0 < 4294967296) (hv1 : 4294967296 ≤ 2 * v1)
include hV hW hu0 hv0 hv1

theorem kn_init (hlt : W < V * 4294967296) : a / v1 ≤ 4294967297 ∧ W / V ≤ a / v1 := by
  have hv : 0 < v1 := by omega
  constructor
  · have h1 : a / v1 < 4294967298 := by
      rw [Nat.div_lt_iff_lt_mul hv]
      omega
    omega
  · have h2 := Nat.lt_mul_div_succ a hv
    obtain ⟨p0, hp0⟩ : ∃ p0, p0 = a / v1 := ⟨_, rfl⟩
    rw [← hp0] at h2 ⊢
    have h3 : W / V < p0 + 1 := by
      have e := dist3 (p0 + 1) v1 v0 4294967296
      rw [Nat.div_lt_iff_lt_mul (by omega), hV]
      rw [Nat.mul_comm (p0 + 1) v1] at e
      generalize v1 * (p0 + 1) = A at *
      generalize (p0 + 1) * v0 = C at *
      generalize (p0 + 1) * (v1 * 4294967296 + v0) = D at *
      omega
    omega

theorem kn_dec (hlt : W < V * 4294967296) (hp : p * v1 + t = a) (h : 4294967296 ≤ p ∨ t * 4294967296 + u0 < p * v0) : W / V < p := by
  rw [Nat.div_lt_iff_lt_mul (by omega)]
  rcases h with h | h
  · refine Nat.lt_of_lt_of_le hlt ?_
    rw [Nat.mul_comm]
    exact Nat.mul_le_mul_right _ h
  · have e := dist3 p v1 v0 4294967296
    rw [← hV] at e
    generalize p * V = D at *
    generalize p * v1 = A at *
    generalize p * v0 = C at *
    omega

theorem kn_end (hp : p * v1 + t = a) (h : p * v0 ≤ t * 4294967296 + u0) (hq : W / V ≤ p) : p = W / V := by
  refine Nat.le_antisymm ?_ hq
  have e := dist3 p v1 v0 4294967296
  rw [← hV] at e
  rw [Nat.le_div_iff_mul_le (by omega)]
  generalize p * V = D at *
  generalize p * v1 = A at *
  generalize p * v0 = C at *
  omega
end

theorem kn_brk {p v0 t u0 : Nat} (hp : p ≤ 4294967296) (hv0 : v0 < 4294967296) (ht : 4294967296 ≤ t) : p * v0 ≤ t * 4294967296 + u0 := by
  have h1 := Nat.mul_le_mul_right v0 hp
  generalize p * v0 = C at *
  omega

/-- One digit of the difference: what u64 makes of it. -/
def sb64 (u m b : Nat) : Nat := (u + 18446744073709551616 - m - b) % 18446744073709551616

theorem sb64_c {u m b : Nat} (hu : u < 4294967296) (hm : m < 4294967296) (hb : b ≤ 1) : (m + b ≤ u ∧ sb64 u m b % 4294967296 + m + b = u ∧ sb64 u m b / 9223372036854775808 = 0) ∨ (u < m + b ∧ sb64 u m b % 4294967296 + m + b = u + 4294967296 ∧ sb64 u m b / 9223372036854775808 = 1) := by
  rcases Nat.lt_or_ge u (m + b) with h | h
  · have e : sb64 u m b = u + 18446744073709551616 - m - b := by unfold sb64; rw [Nat.mod_eq_of_lt (by omega)]
    rw [e]
    exact .inr ⟨h, by omega, by omega⟩
  · have e : sb64 u m b = u - m - b := by unfold sb64; omega
    rw [e]
    exact .inl ⟨h, by omega, by omega⟩

theorem sb64_0 {u m b : Nat} (h : u = m + b) : sb64 u m b = 0 := by
  unfold sb64
  rw [show u + 18446744073709551616 - m - b = 18446744073709551616 by omega]

theorem kn_sub {u0 u1 u2 P0 P1 W V x0 b0 T x1 b1 : Nat} (h0 : u0 < 4294967296) (h1 : u1 < 4294967296) (h2 : u2 < 4294967296) (hW : W = u0 + u1 * 4294967296 + u2 * 18446744073709551616)
    (hle : P1 * 4294967296 + P0 ≤ W) (hlt : W - (P1 * 4294967296 + P0) < V) (hV : V < 18446744073709551616)
    (hx0 : x0 = sb64 u0 (P0 % 4294967296) 0 % 4294967296) (hb0 : b0 = sb64 u0 (P0 % 4294967296) 0 / 9223372036854775808) (hT : T = P0 / 4294967296 + P1)
    (hx1 : x1 = sb64 u1 (T % 4294967296) b0 % 4294967296) (hb1 : b1 = sb64 u1 (T % 4294967296) b0 / 9223372036854775808) :
    sb64 u2 (T / 4294967296) b1 = 0 ∧ x0 + x1 * 4294967296 + (P1 * 4294967296 + P0) = W := by
  have c0 := sb64_c h0 (Nat.mod_lt P0 (show 0 < 4294967296 by decide)) (Nat.zero_le 1)
  rw [← hx0, ← hb0] at c0
  have c1 := sb64_c h1 (Nat.mod_lt T (show 0 < 4294967296 by decide)) (show b0 ≤ 1 by omega)
  rw [← hx1, ← hb1] at c1
  have e1 := Nat.div_add_mod P0 4294967296
  have e2 := Nat.div_add_mod T 4294967296
  generalize P0 / 4294967296 = q0 at *
  generalize P0 % 4294967296 = m0 at *
  generalize T / 4294967296 = q1 at *
  generalize T % 4294967296 = m1 at *
  clear hx0 hb0 hx1 hb1
  have key : u2 = q1 + b1 := by omega
  exact ⟨sb64_0 key, by omega⟩

theorem sb64_b {u m b : Nat} (hu : u < 4294967296) (hm : m < 4294967296) (hb : b ≤ 1) : sb64 u m b / 9223372036854775808 ≤ 1 := by unfold sb64; omega

/-- One digit's step. -/
structure Stp (u v pq c b x c' b' : Nat) : Prop where
  hg : c + pq * v < 18446744073709551616
  hx : x = sb64 u ((c + pq * v) % 4294967296) b % 4294967296
  hc : c' = (c + pq * v) / 4294967296
  hb : b' = sb64 u ((c + pq * v) % 4294967296) b / 9223372036854775808
  hxl : x < 4294967296
  hbl : b' ≤ 1

theorem kn_round {u0 u1 u2 v0 v1 V W pq : Nat} (h0 : u0 < 4294967296) (h1 : u1 < 4294967296) (h2 : u2 < 4294967296) (hv0 : v0 < 4294967296) (hv1 : v1 < 4294967296) (hW : W = u0 + u1 * 4294967296 + u2 * 18446744073709551616) (hVV : V = v1 * 4294967296 + v0) (hV0 : 0 < V)
    (hpq : pq = W / V) (hpqB : pq < 4294967296) : ∃ x0 c0 b0 x1 c1 b1 : Nat, Stp u0 v0 pq 0 0 x0 c0 b0 ∧ Stp u1 v1 pq c0 b0 x1 c1 b1 ∧ sb64 u2 c1 b1 = 0 ∧ x0 + x1 * 4294967296 = W % V ∧ c1 < 18446744073709551616 := by
  obtain ⟨P0, hP0⟩ : ∃ P0, P0 = pq * v0 := ⟨_, rfl⟩
  obtain ⟨P1, hP1⟩ : ∃ P1, P1 = pq * v1 := ⟨_, rfl⟩
  have hpv0 := Nat.mul_le_mul (show pq ≤ 4294967295 by omega) (show v0 ≤ 4294967295 by omega)
  have hpv1 := Nat.mul_le_mul (show pq ≤ 4294967295 by omega) (show v1 ≤ 4294967295 by omega)
  rw [← hP0] at hpv0
  rw [← hP1] at hpv1
  have hpV : pq * V = P1 * 4294967296 + P0 := by rw [hVV, dist3, ← hP0, ← hP1]
  have hmd := Nat.div_add_mod' W V
  rw [← hpq, hpV] at hmd
  have hWmV := Nat.mod_lt W (show V > 0 by omega)
  have hm : W - (P1 * 4294967296 + P0) = W % V := by omega
  have hb0 := sb64_b (u := u0) (m := P0 % 4294967296) (b := 0) h0 (Nat.mod_lt _ (by decide)) (by decide)
  have hb1 := sb64_b (u := u1) (m := (P0 / 4294967296 + P1) % 4294967296) (b := sb64 u0 (P0 % 4294967296) 0 / 9223372036854775808) h1 (Nat.mod_lt _ (by decide)) hb0
  have hks := kn_sub (V := V) h0 h1 h2 (W := W) (P0 := P0) (P1 := P1) hW (by omega) (by omega) (by omega) rfl rfl rfl rfl rfl
  refine ⟨sb64 u0 (P0 % 4294967296) 0 % 4294967296, P0 / 4294967296, sb64 u0 (P0 % 4294967296) 0 / 9223372036854775808, sb64 u1 ((P0 / 4294967296 + P1) % 4294967296) (sb64 u0 (P0 % 4294967296) 0 / 9223372036854775808) % 4294967296, (P0 / 4294967296 + P1) / 4294967296, sb64 u1 ((P0 / 4294967296 + P1) % 4294967296) (sb64 u0 (P0 % 4294967296) 0 / 9223372036854775808) / 9223372036854775808, ⟨?_, ?_, ?_, ?_, Nat.mod_lt _ (by decide), hb0⟩, ⟨?_, ?_, ?_, ?_, Nat.mod_lt _ (by decide), hb1⟩, hks.1, ?_, ?_⟩
  · rw [← hP0]; omega
  · rw [← hP0, Nat.zero_add]
  · rw [← hP0, Nat.zero_add]
  · rw [← hP0, Nat.zero_add]
  · rw [← hP1]; omega
  · rw [← hP1]
  · rw [← hP1]
  · rw [← hP1]
  · have := hks.2
    omega
  · omega

theorem nv_get3 {ds : List Int} (h : Dg ds) (j : Nat) (h2 : j + 2 < ds.length) {d0 d1 d2 : Int} (g0 : ds[j]? = some d0) (g1 : ds[j + 1]? = some d1) (g2 : ds[j + 2]? = some d2) {V W : Nat} (hV : V < 18446744073709551616) (hN : nv ds < V * 4294967296 ^ (j + 1)) (hW : W = nv ds / 4294967296 ^ j) :
    W < V * 4294967296 ∧ d0 = ((W % 4294967296 : Nat) : Int) ∧ d1 = ((W / 4294967296 % 4294967296 : Nat) : Int) ∧ d2 = ((W / 18446744073709551616 : Nat) : Int) := by
  have e0 := nv_get h j d0 g0
  have e1 := nv_get h (j + 1) d1 g1
  have e2 := nv_get h (j + 2) d2 g2
  have p1 : 4294967296 ^ (j + 1) = 4294967296 ^ j * 4294967296 := Nat.pow_succ ..
  have p2 : 4294967296 ^ (j + 2) = 4294967296 ^ j * 18446744073709551616 := by rw [Nat.pow_succ, Nat.pow_succ, Nat.mul_assoc]
  rw [p1, ← Nat.div_div_eq_div_mul, ← hW] at e1
  rw [p2, ← Nat.div_div_eq_div_mul, ← hW] at e2
  rw [← hW] at e0
  have hlt : W < V * 4294967296 := by
    rw [hW, Nat.div_lt_iff_lt_mul (Nat.pow_pos (by decide)), Nat.mul_assoc, Nat.mul_comm 4294967296, ← p1]
    exact hN
  refine ⟨hlt, e0, e1, ?_⟩
  rw [e2, Nat.mod_eq_of_lt (by omega)]

/-- A window of three digits written over. -/
theorem nv_win {ds : List Int} (h : Dg ds) (j : Nat) (h2 : j + 2 < ds.length) {d0 d1 d2 : Int} (g0 : ds[j]? = some d0) (g1 : ds[j + 1]? = some d1) (g2 : ds[j + 2]? = some d2) (x0 x1 : Nat) :
    nv (((ds.set j (x0 : Int)).set (j + 1) (x1 : Int)).set (j + 2) 0) + (d0.toNat + d1.toNat * 4294967296 + d2.toNat * 18446744073709551616) * 4294967296 ^ j = nv ds + (x0 + x1 * 4294967296) * 4294967296 ^ j := by
  have s2 : ∀ {ds : List Int} (i : Nat) (d e : Int), ds[i]? = some d → nv (ds.set i e) + d.toNat * 4294967296 ^ i = nv ds + e.toNat * 4294967296 ^ i := nv_set2'
  have a0 := s2 j d0 (x0 : Int) g0
  have a1 := s2 (ds := ds.set j (x0 : Int)) (j + 1) d1 (x1 : Int) (by rw [List.getElem?_set, if_neg (by omega)]; exact g1)
  have a2 := s2 (ds := (ds.set j (x0 : Int)).set (j + 1) (x1 : Int)) (j + 2) d2 0 (by rw [List.getElem?_set, if_neg (by omega), List.getElem?_set, if_neg (by omega)]; exact g2)
  have p1 : 4294967296 ^ (j + 1) = 4294967296 * 4294967296 ^ j := by rw [Nat.pow_succ, Nat.mul_comm]
  have p2 : 4294967296 ^ (j + 2) = 18446744073709551616 * 4294967296 ^ j := by rw [Nat.pow_succ, Nat.pow_succ, Nat.mul_assoc, Nat.mul_comm]
  rw [p1, ← Nat.mul_assoc, ← Nat.mul_assoc] at a1
  rw [p2, ← Nat.mul_assoc] at a2
  rw [Nat.add_mul, Nat.add_mul, Nat.add_mul]
  simp only [Int.toNat_natCast, Int.toNat_zero, Nat.zero_mul, Nat.add_zero] at a0 a1 a2
  omega
where
  nv_set2' : ∀ {ds : List Int} (i : Nat) (d e : Int), ds[i]? = some d → nv (ds.set i e) + d.toNat * 4294967296 ^ i = nv ds + e.toNat * 4294967296 ^ i
  | d :: ds, 0, y, e, h => by
    simp at h
    subst h
    rw [List.set_cons_zero, nv, nv, Nat.pow_zero]
    omega
  | d :: ds, i + 1, y, e, h => by
    rw [List.getElem?_cons_succ] at h
    have ih := nv_set2' (ds := ds) i y e h
    rw [List.set_cons_succ, nv, nv, Nat.pow_succ]
    have e1 : y.toNat * (4294967296 ^ i * 4294967296) = 4294967296 * (y.toNat * 4294967296 ^ i) := by rw [← Nat.mul_assoc, Nat.mul_comm]
    have e2 : e.toNat * (4294967296 ^ i * 4294967296) = 4294967296 * (e.toNat * 4294967296 ^ i) := by rw [← Nat.mul_assoc, Nat.mul_comm]
    rw [e1, e2]
    omega

section
variable {bin : BinOp → IntKind → Int → Int → Int} {cmp : BinOp → Int → Int → Bool} {cnv : IntKind → Int → Int} {neg : IntKind → Int → Int} {com : IntKind → Int → Int} {bnot : Bool → Bool} {beq : Bool → Bool → Bool} {ofN : Nat → Int} {toN : Int → Nat} {at_ : Nat → Nat → Nat → Nat} {sub_ : Nat → Nat → Nat} {scmp : BinOp → ByteArray → ByteArray → Bool} {cat : ByteArray → ByteArray → ByteArray} {sget : ByteArray → Int → Int} {ssz : ByteArray → Nat} {ssub : ByteArray → Nat → Nat → ByteArray} {elem : Option Addr → Int → Nat → Addr} {fld_ : Addr → Nat → Addr}
  (hA : (⟨bin, cmp, cnv, neg, com, bnot, beq, ofN, toN, at_, sub_, scmp, cat, sget, ssz, ssub, elem, fld_⟩ : Ar) = Ar.real)
include hA

theorem subw {u m b : Nat} (hu : u < 18446744073709551616) (hm : m < 18446744073709551616) (hb : b ≤ 1) : bin .sub .u64 (bin .sub .u64 (u : Int) (m : Int)) (b : Int) = ((sb64 u m b : Nat) : Int) := by
  have w : ∀ x y : Int, bin .sub .u64 x y = (x - y) % 18446744073709551616 := fun x y => by
    rw [bin_is hA]
    show IntKind.u64.wrap (x - y) = _
    unfold IntKind.wrap
    exact if_neg (by simp [IntKind.signed])
  rw [w, w]
  unfold sb64
  omega
end
end Go.Proofs.YtepfbdfbfimefaaDoor.Bf
