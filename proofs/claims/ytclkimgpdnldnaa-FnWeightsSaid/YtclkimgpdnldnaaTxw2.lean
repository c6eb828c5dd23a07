/- The sizes of a transaction, as the package counts them; the law. -/
import Derived.Test.YtclkimgpdnldnaaTxw
set_option linter.unusedSimpArgs false
set_option linter.unusedVariables false
namespace Go.Proofs.Ytclkimgpdnldnaa.Tx
open Go Go.Se Go.Proofs Go.Proofs.Ytclkimgpdnldnaa.Tytb





set_option maxRecDepth 100000 in
theorem baseSize {P : Program} (hP : P = Try.prog) (R : RO) (v : Value) (g : GTx) (h : PAt 4 MsgAt R [v] g) (hz : tsz g ≤ 1000000) : RetP P 94 [v] R fun _ x => ∃ r : Int, x = .int .i64 r ∧ r = (bsz g : Nat) := by
  subst hP
  obtain ⟨ad, ds, hv, k2, k3, a, n, c, a2, n2, cc, rfl, h1, h2, h3, h4⟩ := h
  simp only [List.cons.injEq, and_true] at hv
  subst hv
  obtain ⟨ver, ins, outs, lock⟩ := g
  simp only [tsz] at h1 h2 h3 h4 k3 hz ⊢
  have hl3 : n = ins.length := h3.len
  have hl4 : n2 = outs.length := h4.len
  have hs3 := len_sum isz ins (fun x _ => by unfold isz; omega)
  have hs4 := len_sum osz outs (fun x _ => by unfold osz; omega)
  refine retP_vc (fz := []) Try.func94 rfl (by decide) rfl ok94 ?_
  intro P bin cmp cnv neg com bnot beq ofN toN at_ sub_ scmp cat sget ssz ssub elem fld_ hP hA
  conv => cbv
  have o := ofN_ hA n
  have o2 := ofN_ hA n2
  refine ⟨[0, 1, 2, 3, 4, 5, 8, 9, 10, 11, 12, 13, 6, 7, 14, 15, 16], [], mix hP, by kernel_rfl, ?_⟩
  conv => cbv
  refine ld_at hA k3 1 rfl ?_
  conv => cbv
  refine ld_at hA k3 2 rfl ?_
  conv => cbv
  have e1 : cnv .u64 (ofN n) = ((ins.length : Nat) : Int) := by rw [o, cnv_u64 hA (by omega)]; omega
  have e2 : cnv .u64 (ofN n2) = ((outs.length : Nat) : Int) := by rw [o2, cnv_u64 hA (by omega)]; omega
  have v1 := vlen_le ins.length
  have v2 := vlen_le outs.length
  refine (vSize hP R _ ins.length e1).callQ rfl ?_
  rintro _ ⟨r1, rfl, hr1⟩
  conv => cbv
  refine ⟨⟨trivial, .refl _⟩, ?_⟩
  refine (vSize hP R _ outs.length e2).callQ rfl ?_
  rintro _ ⟨r2, rfl, hr2⟩
  conv => cbv
  refine ⟨⟨trivial, .refl _⟩, ?_⟩
  refine ld_at hA k3 1 rfl ?_
  conv => cbv
  have a1 : bin .add .i64 8 r1 = 8 + r1 := add_i64 hA (by omega)
  have a2' : bin .add .i64 (bin .add .i64 8 r1) r2 = 8 + r1 + r2 := by rw [a1, add_i64 hA (by omega)]
  generalize bin .add .i64 (bin .add .i64 8 r1) r2 = s at a2' ⊢
  obtain ⟨base, hbase⟩ : ∃ base, base = 8 + vlen ins.length + vlen outs.length := ⟨_, rfl⟩
  have hs : s = (base : Nat) := by omega
  refine ⟨Int × Int, fun x => ⟨[(29, .v (.int .i64 x.1)), (3, .v (.int .i64 x.2)), (28, .v (.int .i64 (ofN n))), (27, .v (.slice a n c)), (0, .v (.pointer (some ad)))], R, [], 0, []⟩,
    fun k x => ∃ j : Nat, x.1 = j ∧ j ≤ n ∧ k = n - j ∧ x.2 = (base + ((ins.take j).map inSz).sum : Nat),
    ⟨n, (0, s), ⟨⟨rfl, rfl, rfl, rfl, rfl, trivial⟩, rfl, trivial, rfl, .refl _⟩, 0, rfl, by omega, rfl, by simpa using hs⟩, ?_⟩
  clear hs
  rintro k ⟨i, s⟩ ⟨j, hi, hj, hk, hs⟩
  simp only at hi hs
  conv => cbv
  by_cases hlt : j < n
  case pos =>
    refine br_t (by rw [o, cmp_lss hA]; simp; omega) ?_
    conv => cbv
    obtain ⟨q, hxq⟩ : ∃ q, ins[j]? = some q := ⟨_, List.getElem?_eq_getElem (by omega)⟩
    have hq := mem_sum isz (List.mem_of_getElem? hxq)
    have hsc : isz q = 50 + q.script.length + (q.wit.map wsz).sum := rfl
    have hqz := inSz_le q
    have hsm := sum_mono inSz isz ins j (fun x _ => inSz_le x)
    refine ix_at hA h3 j hi (by omega) ?_
    refine ld_elem hA h3 j hi hxq ?_
    rintro _ - ⟨ad3, ds3, rfl, hd3, hc3, hin⟩
    refine ⟨_, rfl, ?_⟩
    conv => cbv
    refine (inSize hP R ad3 ds3 q hc3 hin (by omega)).callQ rfl ?_
    rintro _ ⟨r, rfl, hr⟩
    conv => cbv
    have a1 : bin .add .i64 s r = s + r := add_i64 hA (by omega)
    refine ⟨n - (j + 1), (i + 1, _), by omega, ⟨⟨?_, rfl, rfl, rfl, rfl, trivial⟩, rfl, trivial, rfl, .refl _⟩, j + 1, by show i + 1 = ((j + 1 : Nat) : Int); omega, by omega, rfl, ?_⟩
    · rw [add_i64 hA (by omega)]
      rfl
    · show bin .add .i64 s r = ((_ : Nat) : Int)
      rw [a1, sum_succ inSz hxq]
      omega
  refine br_f (by rw [o, cmp_lss hA]; simp; omega) ?_
  conv => cbv
  refine ld_at hA k3 2 rfl ?_
  conv => cbv
  rw [List.take_of_length_le (by omega)] at hs
  have hsm1 := sum_mono inSz isz ins ins.length (fun x _ => inSz_le x)
  rw [List.take_of_length_le (Nat.le_refl _)] at hsm1
  clear hlt hi hj hk
  obtain ⟨base2, hbase2⟩ : ∃ base2, base2 = base + (ins.map inSz).sum := ⟨_, rfl⟩
  have hs : s = (base2 : Nat) := by omega
  refine ⟨Int × Int, fun x => ⟨[(43, .v (.int .i64 x.1)), (3, .v (.int .i64 x.2)), (42, .v (.int .i64 (ofN n2))), (41, .v (.slice a2 n2 cc)), (0, .v (.pointer (some ad)))], R, [], 0, []⟩,
    fun k x => ∃ j : Nat, x.1 = j ∧ j ≤ n2 ∧ k = n2 - j ∧ x.2 = (base2 + ((outs.take j).map outSz).sum : Nat),
    ⟨n2, (0, s), ⟨⟨rfl, rfl, rfl, rfl, rfl, trivial⟩, rfl, trivial, rfl, .refl _⟩, 0, rfl, by omega, rfl, by simpa using hs⟩, ?_⟩
  clear hs
  rintro k ⟨i, s⟩ ⟨j, hi, hj, hk, hs⟩
  simp only at hi hs
  conv => cbv
  by_cases hlt : j < n2
  case pos =>
    refine br_t (by rw [o2, cmp_lss hA]; simp; omega) ?_
    conv => cbv
    obtain ⟨q, hxq⟩ : ∃ q, outs[j]? = some q := ⟨_, List.getElem?_eq_getElem (by omega)⟩
    have hq := mem_sum osz (List.mem_of_getElem? hxq)
    have hsc : osz q = 17 + q.pk.length := rfl
    have hqz := outSz_le q
    have hsm := sum_mono outSz osz outs j (fun x _ => outSz_le x)
    refine ix_at hA h4 j hi (by omega) ?_
    refine ld_elem hA h4 j hi hxq ?_
    rintro _ - ⟨ad3, ds3, rfl, hd3, hc3, hin⟩
    refine ⟨_, rfl, ?_⟩
    conv => cbv
    refine (outSize hP R ad3 ds3 q hc3 hin (by omega)).callQ rfl ?_
    rintro _ ⟨r, rfl, hr⟩
    conv => cbv
    have a1 : bin .add .i64 s r = s + r := add_i64 hA (by omega)
    refine ⟨n2 - (j + 1), (i + 1, _), by omega, ⟨⟨?_, rfl, rfl, rfl, rfl, trivial⟩, rfl, trivial, rfl, .refl _⟩, j + 1, by show i + 1 = ((j + 1 : Nat) : Int); omega, by omega, rfl, ?_⟩
    · rw [add_i64 hA (by omega)]
      rfl
    · show bin .add .i64 s r = ((_ : Nat) : Int)
      rw [a1, sum_succ outSz hxq]
      omega
  refine br_f (by rw [o2, cmp_lss hA]; simp; omega) ?_
  conv => cbv
  intro ρ R'' _ _ _
  refine ⟨_, rfl, ?_⟩
  rw [List.take_of_length_le (by omega)] at hs
  rw [hs, bsz, hbase2, hbase]

set_option maxRecDepth 100000 in
theorem hasWitMsg {P : Program} (hP : P = Try.prog) (R : RO) (v : Value) (g : GTx) (h : PAt 4 MsgAt R [v] g) (hz : tsz g ≤ 1000000) : RetP P 70 [v] R fun _ x => ∃ r, x = .bool r ∧ r = hw g := by
  subst hP
  obtain ⟨ad, ds, hv, k2, k3, a, n, c, a2, n2, cc, rfl, h1, h2, h3, h4⟩ := h
  simp only [List.cons.injEq, and_true] at hv
  subst hv
  obtain ⟨ver, ins, outs, lock⟩ := g
  simp only [tsz] at h1 h2 h3 h4 k3 hz ⊢
  have hl3 : n = ins.length := h3.len
  have hl4 : n2 = outs.length := h4.len
  have hs3 := len_sum isz ins (fun x _ => by unfold isz; omega)
  have hs4 := len_sum osz outs (fun x _ => by unfold osz; omega)
  refine retP_vc (fz := []) Try.func70 rfl (by decide) rfl ok70 ?_
  intro P bin cmp cnv neg com bnot beq ofN toN at_ sub_ scmp cat sget ssz ssub elem fld_ hP hA
  conv => cbv
  have o := ofN_ hA n
  refine ld_at hA k3 1 rfl ?_
  conv => cbv
  refine ⟨Int, fun x => ⟨[(10, .v (.int .i64 x)), (9, .v (.int .i64 (ofN n))), (8, .v (.slice a n c))], R, [], 0, []⟩,
    fun k x => ∃ i : Nat, x = i ∧ i ≤ n ∧ k = n - i ∧ (ins.take i).any (fun q => decide (0 < q.wit.length)) = false, ⟨n, 0, ⟨⟨rfl, rfl, rfl, trivial⟩, rfl, trivial, rfl, .refl _⟩, 0, rfl, by omega, rfl, rfl⟩, ?_⟩
  rintro k x ⟨i, hx, hi, hk, ht⟩
  conv => cbv
  by_cases hlt : i < n
  case neg =>
    refine br_f (by rw [o, cmp_lss hA]; simp; omega) ?_
    conv => cbv
    intro ρ R'' _ _ _
    refine ⟨_, rfl, ?_⟩
    rw [List.take_of_length_le (by omega)] at ht
    exact ht.symm
  refine br_t (by rw [o, cmp_lss hA]; simp; omega) ?_
  conv => cbv
  refine ix_at hA h3 i hx hlt ?_
  obtain ⟨q, hxq⟩ : ∃ q, ins[i]? = some q := ⟨_, List.getElem?_eq_getElem (by omega)⟩
  refine ld_elem hA h3 i hx hxq ?_
  rintro _ - ⟨ad3, ds3, rfl, hd3, hc3, b, m, d, b2, m2, d2, rfl, g0, g1, g2, g3, g4, g5, g6⟩
  refine ⟨_, rfl, ?_⟩
  conv => cbv
  refine ld_at hA hc3 34 (v := .slice b2 m2 d2) (by rw [List.getElem?_append_right (by rw [ints_len, g0]; omega), ints_len, g0]; rfl) ?_
  conv => cbv
  have om := ofN_ hA m2
  have hl6 := g6.len
  by_cases hp : 0 < m2
  · refine br_t (by rw [om, cmp_neq hA]; simp; omega) ?_
    conv => cbv
    intro ρ R'' _ _ _
    refine ⟨_, rfl, ?_⟩
    show true = ins.any _
    rw [eq_comm, List.any_eq_true]
    exact ⟨q, List.mem_of_getElem? hxq, by simp; omega⟩
  · refine br_f (by rw [om, cmp_neq hA]; simp; omega) ?_
    conv => cbv
    refine ⟨n - (i + 1), x + 1, by omega, ⟨⟨?_, rfl, rfl, trivial⟩, rfl, trivial, rfl, .refl _⟩, i + 1, by show x + 1 = ((i + 1 : Nat) : Int); omega, by omega, rfl, ?_⟩
    · rw [add_i64 hA (by omega)]
      rfl
    · rw [List.take_add_one, hxq, List.any_append, ht]
      show (false || (decide (0 < q.wit.length) || false)) = false
      rw [decide_eq_false (by omega)]
      rfl

set_option maxRecDepth 100000 in
theorem fullSize {P : Program} (hP : P = Try.prog) (R : RO) (v : Value) (g : GTx) (h : PAt 4 MsgAt R [v] g) (hz : tsz g ≤ 1000000) : RetP P 64 [v] R fun _ x => ∃ r : Int, x = .int .i64 r ∧ r = (fsz g : Nat) := by
  subst hP
  have hh := h
  have hz0 := hz
  obtain ⟨ad, ds, hv, k2, k3, a, n, c, a2, n2, cc, rfl, h1, h2, h3, h4⟩ := h
  simp only [List.cons.injEq, and_true] at hv
  subst hv
  obtain ⟨ver, ins, outs, lock⟩ := g
  simp only [tsz] at h1 h2 h3 h4 k3 hz ⊢
  have hl3 : n = ins.length := h3.len
  have hl4 : n2 = outs.length := h4.len
  have hs3 := len_sum isz ins (fun x _ => by unfold isz; omega)
  have hs4 := len_sum osz outs (fun x _ => by unfold osz; omega)
  have hsm1 := sum_mono inSz isz ins ins.length (fun x _ => inSz_le x)
  rw [List.take_of_length_le (Nat.le_refl _)] at hsm1
  have hsm2 := sum_mono outSz osz outs outs.length (fun x _ => outSz_le x)
  rw [List.take_of_length_le (Nat.le_refl _)] at hsm2
  have v1 := vlen_le ins.length
  have v2 := vlen_le outs.length
  have hbz : bsz ⟨ver, ins, outs, lock⟩ = 8 + vlen ins.length + vlen outs.length + (ins.map inSz).sum + (outs.map outSz).sum := rfl
  refine retP_vc (fz := []) Try.func64 rfl (by decide) rfl ok64 ?_
  intro P bin cmp cnv neg com bnot beq ofN toN at_ sub_ scmp cat sget ssz ssub elem fld_ hP hA
  conv => cbv
  have o := ofN_ hA n
  refine (baseSize hP R _ _ hh hz0).callQ rfl ?_
  rintro _ ⟨s, rfl, hs⟩
  conv => cbv
  refine (hasWitMsg hP R _ _ hh hz0).callQ rfl ?_
  rintro _ ⟨b, rfl, hb⟩
  conv => cbv
  cases b with
  | false =>
    conv => cbv
    intro ρ R'' _ _ _
    refine ⟨_, rfl, ?_⟩
    rw [hs, fsz, ← hb]
    rfl
  | true =>
    conv => cbv
    refine ld_at hA k3 1 rfl ?_
    conv => cbv
    have a1 : bin .add .i64 s 2 = s + 2 := add_i64 hA (by omega)
    generalize bin .add .i64 s 2 = s2 at a1 ⊢
    obtain ⟨base, hbase⟩ : ∃ base, base = bsz ⟨ver, ins, outs, lock⟩ + 2 := ⟨_, rfl⟩
    have hs2 : s2 = (base : Nat) := by omega
    clear hs a1
    refine ⟨Int × Int, fun x => ⟨[(17, .v (.int .i64 x.1)), (3, .v (.int .i64 x.2)), (16, .v (.int .i64 (ofN n))), (15, .v (.slice a n c))], R, [], 0, []⟩,
      fun k x => ∃ j : Nat, x.1 = j ∧ j ≤ n ∧ k = n - j ∧ x.2 = (base + ((ins.take j).map fun q => witSz q.wit).sum : Nat),
      ⟨n, (0, s2), ⟨⟨rfl, rfl, rfl, rfl, trivial⟩, rfl, trivial, rfl, .refl _⟩, 0, rfl, by omega, rfl, by simpa using hs2⟩, ?_⟩
    rintro k ⟨i, s⟩ ⟨j, hi, hj, hk, hs⟩
    simp only at hi hs
    conv => cbv
    by_cases hlt : j < n
    case neg =>
      refine br_f (by rw [o, cmp_lss hA]; simp; omega) ?_
      conv => cbv
      intro ρ R'' _ _ _
      refine ⟨_, rfl, ?_⟩
      rw [List.take_of_length_le (by omega)] at hs
      rw [hs, fsz, ← hb, hbase, Nat.add_assoc]
      rfl
    refine br_t (by rw [o, cmp_lss hA]; simp; omega) ?_
    conv => cbv
    obtain ⟨q, hxq⟩ : ∃ q, ins[j]? = some q := ⟨_, List.getElem?_eq_getElem (by omega)⟩
    have hq := mem_sum isz (List.mem_of_getElem? hxq)
    have hsc : isz q = 50 + q.script.length + (q.wit.map wsz).sum := rfl
    have hqz := witSz_le q
    have hsm := sum_mono (fun q : GIn => witSz q.wit) isz ins j (fun x _ => witSz_le x)
    refine ix_at hA h3 j hi hlt ?_
    refine ld_elem hA h3 j hi hxq ?_
    rintro _ - ⟨ad3, ds3, rfl, hd3, hc3, b, m, d, b2, m2, d2, rfl, g0, g1, g2, g3, g4, g5, g6⟩
    refine ⟨_, rfl, ?_⟩
    conv => cbv
    refine ld_at hA hc3 34 (v := .slice b2 m2 d2) (by rw [List.getElem?_append_right (by rw [ints_len, g0]; omega), ints_len, g0]; rfl) ?_
    conv => cbv
    refine (witSize hP R b2 m2 d2 q.wit g6 (by omega)).callQ rfl ?_
    rintro _ ⟨r, rfl, hr⟩
    conv => cbv
    have a2 : bin .add .i64 s r = s + r := add_i64 hA (by omega)
    refine ⟨n - (j + 1), (i + 1, _), by omega, ⟨⟨?_, rfl, rfl, rfl, trivial⟩, rfl, trivial, rfl, .refl _⟩, j + 1, by show i + 1 = ((j + 1 : Nat) : Int); omega, by omega, rfl, ?_⟩
    · rw [add_i64 hA (by omega)]
      rfl
    · show bin .add .i64 s r = ((_ : Nat) : Int)
      rw [a2, sum_succ (fun q : GIn => witSz q.wit) hxq]
      omega
end Go.Proofs.Ytclkimgpdnldnaa.Tx
