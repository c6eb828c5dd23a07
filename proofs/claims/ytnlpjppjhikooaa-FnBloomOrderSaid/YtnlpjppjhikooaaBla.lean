/- Bits of a filter: plain; a hash of bytes. -/
import Derived.Test.YtnlpjppjhikooaaSu
import Derived.Test.YtnlpjppjhikooaaTybl
set_option linter.unusedSimpArgs false
set_option linter.unusedVariables false
namespace Go.Proofs.Ytnlpjppjhikooaa.Bl
open Go Go.Se Go.Proofs Go.Proofs.Ytnlpjppjhikooaa.Tybl

theorem mix {P : Program} (hP : P = Try.prog) : P.follows .mixedOrders = true := by subst hP; rfl

/-- Bytes as a number, the least first. -/
def wordN : List Int → Int
  | [] => 0
  | x :: r => x + 256 * wordN r

/-- A bit is set. -/
def sb (xs : List Int) (p : Nat) : List Int := xs.set (p / 8) (((xs.getD (p / 8) 0).toNat ||| 2 ^ (p % 8) : Nat) : Int)

theorem sb_len (xs : List Int) (p : Nat) : (sb xs p).length = xs.length := by simp [sb]

theorem sb_get (xs : List Int) (p i : Nat) : (sb xs p).getD i 0 = if i = p / 8 ∧ i < xs.length then (((xs.getD i 0).toNat ||| 2 ^ (p % 8) : Nat) : Int) else xs.getD i 0 := by
  simp only [sb, List.getD_eq_getElem?_getD, List.getElem?_set]
  by_cases h : p / 8 = i
  · subst h
    by_cases h2 : p / 8 < xs.length
    · simp [h2]
    · simp [h2]
  · rw [if_neg h, if_neg (fun hx => h hx.1.symm)]

theorem list_ext {xs ys : List Int} (hl : xs.length = ys.length) (h : ∀ i, i < xs.length → xs.getD i 0 = ys.getD i 0) : xs = ys := by
  apply List.ext_getElem hl
  intro i h1 h2
  have := h i h1
  simpa [List.getD_eq_getElem?_getD, List.getElem?_eq_getElem h1, List.getElem?_eq_getElem h2] using this

theorem sb_comm (xs : List Int) (p q : Nat) : sb (sb xs p) q = sb (sb xs q) p := by
  apply list_ext (by simp [sb_len])
  intro i hi
  simp only [sb_len] at hi
  simp only [sb_get, sb_len]
  by_cases h1 : i = p / 8
  · by_cases h2 : i = q / 8
    · rw [if_pos ⟨h2, hi⟩, if_pos ⟨h1, hi⟩, if_pos ⟨h1, hi⟩, if_pos ⟨h2, hi⟩]
      simp only [Int.toNat_natCast]
      rw [Nat.or_assoc, Nat.or_comm (2 ^ (p % 8)), ← Nat.or_assoc]
    · rw [if_neg (fun h => h2 h.1), if_pos ⟨h1, hi⟩, if_pos ⟨h1, hi⟩, if_neg (fun h => h2 h.1)]
  · by_cases h2 : i = q / 8
    · rw [if_pos ⟨h2, hi⟩, if_neg (fun h => h1 h.1), if_neg (fun h => h1 h.1), if_pos ⟨h2, hi⟩]
    · rw [if_neg (fun h => h2 h.1), if_neg (fun h => h1 h.1), if_neg (fun h => h1 h.1), if_neg (fun h => h2 h.1)]

theorem sb_idem (xs : List Int) (p : Nat) : sb (sb xs p) p = sb xs p := by
  apply list_ext (by simp [sb_len])
  intro i hi
  simp only [sb_len] at hi
  simp only [sb_get, sb_len]
  by_cases h1 : i = p / 8
  · simp only [h1, true_and]
    have : p / 8 < xs.length := by omega
    simp [this, Nat.or_assoc]
  · simp [h1]

def sbs (xs : List Int) (ps : List Nat) : List Int := ps.foldl sb xs

theorem sbs_len (ps : List Nat) : ∀ xs : List Int, (sbs xs ps).length = xs.length := by
  induction ps with
  | nil => intro xs; rfl
  | cons p ps ih => intro xs; show (sbs (sb xs p) ps).length = _; rw [ih, sb_len]

theorem sbs_app (xs : List Int) (ps qs : List Nat) : sbs xs (ps ++ qs) = sbs (sbs xs ps) qs := by simp [sbs, List.foldl_append]

theorem sbs_perm {ps qs : List Nat} (h : ps.Perm qs) (xs : List Int) : sbs xs ps = sbs xs qs := by
  unfold sbs
  induction h generalizing xs with
  | nil => rfl
  | cons x _ ih => exact ih _
  | swap x y l => show List.foldl sb (sb (sb xs y) x) l = List.foldl sb (sb (sb xs x) y) l; rw [sb_comm]
  | trans _ _ ih1 ih2 => exact (ih1 _).trans (ih2 _)

theorem sbs_twice (ps : List Nat) : ∀ xs : List Int, sbs xs (ps ++ ps) = sbs xs ps := by
  induction ps with
  | nil => intro xs; rfl
  | cons p ps ih =>
    intro xs
    have h1 : (p :: ps ++ p :: ps).Perm (p :: p :: (ps ++ ps)) := by
      rw [List.cons_append]
      exact List.Perm.cons _ List.perm_middle
    rw [sbs_perm h1]
    show sbs (sb (sb xs p) p) (ps ++ ps) = sbs (sb xs p) ps
    rw [sb_idem, ih]

theorem sbs_law (xs : List Int) (ps qs : List Nat) : sbs (sbs xs ps) qs = sbs (sbs (sbs xs qs) ps) qs := by
  have e : sbs (sbs (sbs xs qs) ps) qs = sbs xs (qs ++ ps ++ qs) := by rw [sbs_app, sbs_app]
  have h1 : (qs ++ ps ++ qs).Perm (ps ++ (qs ++ qs)) := by
    rw [← List.append_assoc]
    exact List.Perm.append_right _ List.perm_append_comm
  rw [e, sbs_perm h1, sbs_app xs ps (qs ++ qs), sbs_twice]

/-- A hash of bytes. -/
def rot (h a b : Int) : Int := Ar.real.bin .or .u32 (Ar.real.bin .shl .u32 h a) (Ar.real.bin .shr .u32 h b)
def kmix (k : Int) : Int := Ar.real.bin .mul .u32 (rot (Ar.real.bin .mul .u32 k 3432918353) 15 17) 461845907
def hmix (h k : Int) : Int := Ar.real.bin .add .u32 (Ar.real.bin .mul .u32 (rot (Ar.real.bin .xor .u32 h k) 13 19) 5) 3864292196
def mloop (xs : List Int) (seed : Int) : Nat → Int
  | 0 => seed
  | j + 1 => hmix (mloop xs seed j) (kmix (wordN ((xs.drop (4 * j)).take 4)))
def tl1 (xs : List Int) (t : Nat) (k : Int) : Int := Ar.real.bin .xor .u32 k (Ar.real.conv .u32 (xs.getD t 0))
def tl2 (xs : List Int) (t : Nat) (k : Int) : Int := Ar.real.bin .xor .u32 k (Ar.real.bin .shl .u32 (Ar.real.conv .u32 (xs.getD (t + 1) 0)) 8)
def tl3 (xs : List Int) (t : Nat) (k : Int) : Int := Ar.real.bin .xor .u32 k (Ar.real.bin .shl .u32 (Ar.real.conv .u32 (xs.getD (t + 2) 0)) 16)
def mtail (xs : List Int) (t m : Nat) (h : Int) : Int :=
  if m = 3 then Ar.real.bin .xor .u32 h (kmix (tl1 xs t (tl2 xs t (tl3 xs t 0)))) else if m = 2 then Ar.real.bin .xor .u32 h (kmix (tl1 xs t (tl2 xs t 0))) else if m = 1 then Ar.real.bin .xor .u32 h (kmix (tl1 xs t 0)) else h
def mxs (h : Int) (n : Int) : Int := Ar.real.bin .xor .u32 h (Ar.real.bin .shr .u32 h n)
def mfin (h n : Int) : Int := mxs (Ar.real.bin .mul .u32 (mxs (Ar.real.bin .mul .u32 (mxs (Ar.real.bin .xor .u32 h n) 16) 2246822507) 13) 3266489909) 16
def murmur (seed : Int) (xs : List Int) : Int := mfin (mtail xs (4 * (xs.length / 4)) (xs.length % 4) (mloop xs seed (xs.length / 4))) xs.length

theorem u32_range (op : BinOp) (x y : Int) (h : op = .xor) : 0 ≤ Ar.real.bin op .u32 x y ∧ Ar.real.bin op .u32 x y ≤ 4294967295 := by
  subst h
  show 0 ≤ IntKind.u32.wrap _ ∧ IntKind.u32.wrap _ ≤ 4294967295
  simp only [IntKind.wrap, IntKind.bits, IntKind.signed]
  simp
  omega

theorem murmur_range (seed : Int) (xs : List Int) : 0 ≤ murmur seed xs ∧ murmur seed xs ≤ 4294967295 := u32_range .xor _ _ rfl

theorem or_add {a b k : Nat} (h : a < 2 ^ k) : a ||| (b * 2 ^ k) = a + b * 2 ^ k := by
  have := Nat.shiftLeft_add_eq_or_of_lt h b
  rw [Nat.shiftLeft_eq] at this
  rw [Nat.or_comm, ← this, Nat.add_comm]


set_option maxRecDepth 100000 in
theorem uint32 {P : Program} (hP : P = Try.prog) (R : RO) (a : Option Addr) (n c : Nat) (xs : List Int) (h : RI R .u8 a n xs) (hn : 4 ≤ n) : RetP P 45 [.agg #[], .slice a n c] R fun _ v => ∃ r, v = .int .u32 r ∧ r = wordN (xs.take 4) := by
  subst hP
  have hl := h.len
  have hx : xs.take 4 = [xs.getD 0 0, xs.getD 1 0, xs.getD 2 0, xs.getD 3 0] := by
    match xs, (by omega : 4 ≤ xs.length) with
    | x :: y :: z :: u :: r, _ => rfl
  refine retP_vc (fz := []) Try.func45 rfl (by decide) rfl ok45 ?_
  intro P bin cmp cnv neg com bnot beq ofN toN at_ sub_ scmp cat sget ssz ssub elem fld_ hP hA
  conv => cbv
  refine ix_u8 hA h 3 rfl (by omega) ?_
  refine ld_u8 hA h (by omega) (by omega) ?_
  intro _ _ _ _
  conv => cbv
  refine ⟨[0, 1, 2, 3, 4, 5, 6, 7, 8, 9, 10, 11, 12, 13, 14, 15, 16, 17, 18, 19, 20, 21, 22], [], mix hP, by kernel_rfl, ?_⟩
  conv => cbv
  refine ix_u8 hA h 0 rfl (by omega) ?_
  refine ld_u8 hA h (by omega) (by omega) ?_
  intro b hb hb0 hb1
  obtain ⟨x0, rfl⟩ : ∃ x0 : Nat, b = x0 := ⟨b.toNat, by omega⟩
  have h0 : xs.getD 0 0 = x0 := hb.symm
  clear hb
  conv => cbv
  refine ix_u8 hA h 1 rfl (by omega) ?_
  refine ld_u8 hA h (by omega) (by omega) ?_
  intro b hb hb0 hb1
  obtain ⟨x1, rfl⟩ : ∃ x1 : Nat, b = x1 := ⟨b.toNat, by omega⟩
  have h1 : xs.getD 1 0 = x1 := hb.symm
  clear hb
  conv => cbv
  refine ⟨by decide, ?_⟩
  refine ix_u8 hA h 2 rfl (by omega) ?_
  refine ld_u8 hA h (by omega) (by omega) ?_
  intro b hb hb0 hb1
  obtain ⟨x2, rfl⟩ : ∃ x2 : Nat, b = x2 := ⟨b.toNat, by omega⟩
  have h2 : xs.getD 2 0 = x2 := hb.symm
  clear hb
  conv => cbv
  refine ⟨by decide, ?_⟩
  refine ix_u8 hA h 3 rfl (by omega) ?_
  refine ld_u8 hA h (by omega) (by omega) ?_
  intro b hb hb0 hb1
  obtain ⟨x3, rfl⟩ : ∃ x3 : Nat, b = x3 := ⟨b.toNat, by omega⟩
  have h3 : xs.getD 3 0 = x3 := hb.symm
  clear hb
  conv => cbv
  refine ⟨by decide, ?_⟩
  intro ρ R'' _ _ _
  refine ⟨_, rfl, ?_⟩
  show bin .or .u32 (bin .or .u32 (bin .or .u32 (cnv .u32 x0) (bin .shl .u32 (cnv .u32 x1) 8)) (bin .shl .u32 (cnv .u32 x2) 16)) (bin .shl .u32 (cnv .u32 x3) 24) = _
  have e0 : cnv .u32 (x0 : Int) = (x0 : Int) := cnv_u32 hA (by omega)
  have e1 : cnv .u32 (x1 : Int) = (x1 : Int) := cnv_u32 hA (by omega)
  have e2 : cnv .u32 (x2 : Int) = (x2 : Int) := cnv_u32 hA (by omega)
  have e3 : cnv .u32 (x3 : Int) = (x3 : Int) := cnv_u32 hA (by omega)
  have s1 : bin .shl .u32 (x1 : Int) 8 = ((x1 * 2 ^ 8 % 4294967296 : Nat) : Int) := shw_u32 hA (y := 8) (by decide)
  have s2 : bin .shl .u32 (x2 : Int) 16 = ((x2 * 2 ^ 16 % 4294967296 : Nat) : Int) := shw_u32 hA (y := 16) (by decide)
  have s3 : bin .shl .u32 (x3 : Int) 24 = ((x3 * 2 ^ 24 % 4294967296 : Nat) : Int) := shw_u32 hA (y := 24) (by decide)
  rw [e0, e1, e2, e3, s1, s2, s3, Nat.mod_eq_of_lt (by omega), Nat.mod_eq_of_lt (by omega), Nat.mod_eq_of_lt (by omega), or_u32 hA (by omega) (by omega), or_add (by omega),
    or_u32 hA (by omega) (by omega), or_add (by omega), or_u32 hA (by omega) (by omega), or_add (by omega), hx, h0, h1, h2, h3]
  simp only [wordN]
  omega




set_option maxRecDepth 100000 in
set_option maxHeartbeats 1000000 in
theorem murmurP {P : Program} (hP : P = Try.prog) (R : RO) (seed : Int) (a : Option Addr) (n c : Nat) (xs : List Int) (h : RI R .u8 a n xs) (hn : n ≤ 100000) (hc : n ≤ c) :
    RetP P 72 [.int .u32 seed, .slice a n c] R fun _ v => ∃ r, v = .int .u32 r ∧ r = murmur seed xs := by
  subst hP
  have hl := h.len
  obtain ⟨q, hq⟩ : ∃ q, q = xs.length / 4 := ⟨_, rfl⟩
  obtain ⟨m, hm⟩ : ∃ m, m = xs.length % 4 := ⟨_, rfl⟩
  have hqm : xs.length = 4 * q + m := by omega
  have hm4 : m < 4 := by omega
  refine retP_vc (fz := []) Try.func72 rfl (by decide) rfl ok72 ?_
  intro P bin cmp cnv neg com bnot beq ofN toN at_ sub_ scmp cat sget ssz ssub elem fld_ hP hA
  conv => cbv
  have o := ofN_ hA n
  have bb := bin_is hA
  have en : cnv .u32 (ofN n) = n := by rw [o]; exact cnv_u32 hA (by omega)
  refine ⟨by decide, ?_⟩
  have eq4 : bin .quo .u32 (cnv .u32 (ofN n)) 4 = (q : Int) := by rw [en, quo_u32 hA (by omega) (by omega) (by decide)]; omega
  refine ⟨Int × Int, fun x => ⟨[(9, .v (.int .u32 x.1)), (6, .v (.int .u32 x.2)), (8, .v (.int .u32 (bin .quo .u32 (cnv .u32 (ofN n)) 4))), (1, .v (.slice a n c)), (5, .v (.int .u32 (cnv .u32 (ofN n))))], R, [], 0, []⟩,
    fun k x => ∃ j : Nat, x.1 = j ∧ j ≤ q ∧ k = q - j ∧ x.2 = mloop xs seed j,
    ⟨q, (0, seed), ⟨⟨rfl, rfl, rfl, rfl, rfl, trivial⟩, rfl, trivial, rfl, .refl _⟩, 0, rfl, by omega, rfl, rfl⟩, ?_⟩
  rintro k ⟨i, hh⟩ ⟨j, hi, hj, hk, hhh⟩
  simp only at hi hhh
  conv => cbv
  by_cases hlt : j < q
  case neg =>
    refine br_f (by rw [eq4, cmp_lss hA]; simp; omega) ?_
    conv => cbv
    have hjq : j = q := by omega
    rw [hjq] at hhh
    have e3 : bin .and .u32 (cnv .u32 (ofN n)) 3 = (m : Int) := by
      have : bin .and .u32 ((n : Nat) : Int) ((3 : Nat) : Int) = ((n &&& 3 : Nat) : Int) := and_u32 hA (by omega) (by omega)
      rw [en]
      rw [show ((3 : Nat) : Int) = 3 from rfl] at this
      rw [this, show n &&& 3 = n % 4 from Nat.and_two_pow_sub_one_eq_mod n 2]
      omega
    have et : bin .mul .u32 (bin .quo .u32 (cnv .u32 (ofN n)) 4) 4 = ((4 * q : Nat) : Int) := by rw [eq4, mul_u32 hA (by omega)]; omega
    by_cases m3 : m = 3
    · refine br_t (by rw [e3, cmp_eql hA]; simp; omega) ?_
      conv => cbv
      have et2 : bin .add .u32 (bin .mul .u32 (bin .quo .u32 (cnv .u32 (ofN n)) 4) 4) 2 = ((4 * q + 2 : Nat) : Int) := by rw [et, add_u32 hA (by omega)]; omega
      refine ix_u8 hA h (4 * q + 2) et2 (by omega) ?_
      refine ld_u8 hA h (by omega) (by omega) ?_
      rw [et2, Int.toNat_natCast]
      intro b2 hb2 _ _
      conv => cbv
      refine ⟨by decide, ?_⟩
      have et1 : bin .add .u32 (bin .mul .u32 (bin .quo .u32 (cnv .u32 (ofN n)) 4) 4) 1 = ((4 * q + 1 : Nat) : Int) := by rw [et, add_u32 hA (by omega)]; omega
      refine ix_u8 hA h (4 * q + 1) et1 (by omega) ?_
      refine ld_u8 hA h (by omega) (by omega) ?_
      rw [et1, Int.toNat_natCast]
      intro b1 hb1 _ _
      conv => cbv
      refine ⟨by decide, ?_⟩
      refine ix_u8 hA h (4 * q) et (by omega) ?_
      refine ld_u8 hA h (by omega) (by omega) ?_
      rw [et, Int.toNat_natCast]
      intro b0 hb0 _ _
      conv => cbv
      iterate 5 refine ⟨by decide, ?_⟩
      intro ρ R'' _ _ _
      refine ⟨_, rfl, ?_⟩
      rw [murmur, ← hq, ← hm, mtail, ← hhh, ← hl]
      rw [if_pos m3, tl1, tl2, tl3, ← hb0, ← hb1, ← hb2]
      rw [← en, bb, cnv_is hA]
      rfl
    refine br_f (by rw [e3, cmp_eql hA]; simp; omega) ?_
    conv => cbv
    by_cases m2 : m = 2
    · refine br_t (by rw [e3, cmp_eql hA]; simp; omega) ?_
      conv => cbv
      have et1 : bin .add .u32 (bin .mul .u32 (bin .quo .u32 (cnv .u32 (ofN n)) 4) 4) 1 = ((4 * q + 1 : Nat) : Int) := by rw [et, add_u32 hA (by omega)]; omega
      refine ix_u8 hA h (4 * q + 1) et1 (by omega) ?_
      refine ld_u8 hA h (by omega) (by omega) ?_
      rw [et1, Int.toNat_natCast]
      intro b1 hb1 _ _
      conv => cbv
      refine ⟨by decide, ?_⟩
      refine ix_u8 hA h (4 * q) et (by omega) ?_
      refine ld_u8 hA h (by omega) (by omega) ?_
      rw [et, Int.toNat_natCast]
      intro b0 hb0 _ _
      conv => cbv
      iterate 5 refine ⟨by decide, ?_⟩
      intro ρ R'' _ _ _
      refine ⟨_, rfl, ?_⟩
      rw [murmur, ← hq, ← hm, mtail, ← hhh, ← hl]
      rw [if_neg m3, if_pos m2, tl1, tl2, ← hb0, ← hb1]
      rw [← en, bb, cnv_is hA]
      rfl
    refine br_f (by rw [e3, cmp_eql hA]; simp; omega) ?_
    conv => cbv
    by_cases m1 : m = 1
    · refine br_t (by rw [e3, cmp_eql hA]; simp; omega) ?_
      conv => cbv
      refine ix_u8 hA h (4 * q) et (by omega) ?_
      refine ld_u8 hA h (by omega) (by omega) ?_
      rw [et, Int.toNat_natCast]
      intro b0 hb0 _ _
      conv => cbv
      iterate 5 refine ⟨by decide, ?_⟩
      intro ρ R'' _ _ _
      refine ⟨_, rfl, ?_⟩
      rw [murmur, ← hq, ← hm, mtail, ← hhh, ← hl]
      rw [if_neg m3, if_neg m2, if_pos m1, tl1, ← hb0]
      rw [← en, bb, cnv_is hA]
      rfl
    refine br_f (by rw [e3, cmp_eql hA]; simp; omega) ?_
    conv => cbv
    iterate 3 refine ⟨by decide, ?_⟩
    intro ρ R'' _ _ _
    refine ⟨_, rfl, ?_⟩
    rw [murmur, ← hq, ← hm, mtail, ← hhh, ← hl]
    rw [if_neg m3, if_neg m2, if_neg m1]
    rw [← en, bb, cnv_is hA]
    rfl
  refine br_t (by rw [eq4, cmp_lss hA]; simp; omega) ?_
  conv => cbv
  refine ⟨[0, 1, 2, 3, 4, 5, 6], [5], mix hP, by kernel_rfl, ?_⟩
  conv => cbv
  refine ⟨.agg #[], ⟨[], rfl, rfl, fun i v hv => by simp at hv⟩, ?_⟩
  conv => cbv
  have e4 : bin .mul .u32 i 4 = ((4 * j : Nat) : Int) := by rw [mul_u32 hA (by omega)]; omega
  refine ⟨4 * j, n, by rw [e4]; rfl, rfl, by omega, by omega, ?_⟩
  intro a2 n2 c2 hn2 hc2 ha2
  conv => cbv
  have h2 := h.part' (l := 4 * j) (m := n) (by omega) (by omega) hn2 hc ha2
  rw [List.take_of_length_le (by simp; omega)] at h2
  refine (uint32 hP R a2 n2 c2 _ h2 (by omega)).callQ rfl ?_
  rintro _ ⟨r, rfl, hr⟩
  conv => cbv
  iterate 4 refine ⟨by decide, ?_⟩
  refine ⟨q - (j + 1), (i + 1, hmix hh (kmix r)), by omega, ⟨⟨?_, ?_, rfl, rfl, rfl, trivial⟩, rfl, trivial, rfl, .refl _⟩, j + 1, by show i + 1 = ((j + 1 : Nat) : Int); omega, by omega, rfl, ?_⟩
  · have ei : bin .add .u32 i 1 = i + 1 := add_u32 hA (by omega)
    rw [ei]
    rfl
  · rw [bb]
    rfl
  · show hmix hh (kmix r) = _
    rw [hhh, hr]
    rfl
end Go.Proofs.Ytnlpjppjhikooaa.Bl
