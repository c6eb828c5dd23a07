/- Checks of signatures counted in a script: plain, the reference's count. -/
import Derived.Test.YtbakdoienfmacaaTkn
import Derived.Test.YtbakdoienfmacaaTytw
set_option linter.unusedSimpArgs false
set_option linter.unusedVariables false
namespace Go.Proofs.Ytbakdoienfmacaa.Tk
open Go Go.Se Go.Proofs Go.Proofs.Ytbakdoienfmacaa.Tytw

/-- What an opcode counts behind another one. -/
def so1 (pr : Bool) (prev op : Int) : Int := if op = 172 ∨ op = 173 then 1 else if op = 174 ∨ op = 175 then (if pr = true ∧ 81 ≤ prev ∧ prev ≤ 96 then prev - 80 else 20) else 0

def soF (pr : Bool) : Int × Int → List Tok → Int × Int := List.foldl (fun s t => (s.1 + so1 pr s.2 t.op, t.op))

/-- The count of tokens, and the last opcode. -/
def soS (pr : Bool) (l : List Tok) : Int × Int := soF pr (0, 255) l

theorem so1_range (pr : Bool) (p o : Int) : 0 ≤ so1 pr p o ∧ so1 pr p o ≤ 20 := by
  unfold so1
  repeat' split
  all_goals omega

theorem soS_snoc (pr : Bool) (l : List Tok) (t : Tok) : soS pr (l ++ [t]) = ((soS pr l).1 + so1 pr (soS pr l).2 t.op, t.op) := by
  simp [soS, soF, List.foldl_append]

theorem soF_range (pr : Bool) : ∀ (l : List Tok) (s : Int × Int), s.1 ≤ (soF pr s l).1 ∧ (soF pr s l).1 ≤ s.1 + 20 * l.length
  | [], s => by simp [soF]
  | t :: l, s => by
    have h := soF_range pr l (s.1 + so1 pr s.2 t.op, t.op)
    have h2 := so1_range pr s.2 t.op
    have e : soF pr s (t :: l) = soF pr (s.1 + so1 pr s.2 t.op, t.op) l := rfl
    rw [e, List.length_cons]
    simp only at h
    omega

theorem soS_range (pr : Bool) (l : List Tok) : 0 ≤ (soS pr l).1 ∧ (soS pr l).1 ≤ 20 * l.length := by
  have := soF_range pr l (0, 255)
  simp only at this
  unfold soS
  omega

theorem soS_take {pr : Bool} {l : List Tok} {i : Nat} {t : Tok} (h : l[i]? = some t) : soS pr (l.take (i + 1)) = ((soS pr (l.take i)).1 + so1 pr (soS pr (l.take i)).2 t.op, t.op) := by
  rw [List.take_add_one, h]
  exact soS_snoc pr _ t

/-- The count of a script. -/
def Ops (pr : Bool) (xs : List Int) (k : Int) : Prop := ∃ l p, Toks xs l p ∧ Stuck xs p ∧ k = (soS pr l).1

theorem Ops.one {pr : Bool} {xs : List Int} {k k' : Int} (h : Ops pr xs k) (h' : Ops pr xs k') : k = k' := by
  obtain ⟨l, p, h1, h2, rfl⟩ := h
  obtain ⟨m, q, i1, i2, rfl⟩ := h'
  obtain ⟨rfl, _⟩ := h1.one h2 i1 i2
  rfl




set_option maxRecDepth 100000 in
set_option maxHeartbeats 1000000 in
theorem sigOpsS {P : Program} (hP : P = Try.prog) (R : RO) (a : Option Addr) (n c : Nat) (xs : List Int) (h : RI R .u8 a n xs) (hn : n ≤ 100000) (hc : n ≤ c) (pr : Bool) :
    RetP P 37 [.slice a n c, .bool pr] R fun _ v => ∃ k, v = .int .i64 k ∧ Ops pr xs k := by
  subst hP
  have hl := h.len
  refine retP_vc (fz := []) Try.func37 rfl (by decide) rfl ok37 ?_
  intro P bin cmp cnv neg com bnot beq ofN toN at_ sub_ scmp cat sget ssz ssub elem fld_ hP hA
  conv => cbv
  refine (tokens hP R a n c xs h hn hc).callP rfl ?_
  rintro R1 _ hR1 ⟨a1, n1, c1, bad, l, p, rfl, ht, g0, hd⟩
  have l0 := g0.len
  have htl := ht.le
  have hop := ht.op h.wf
  have hst : Stuck xs p := by
    rcases hd with ⟨_, hp2⟩ | ⟨_, _, hst⟩
    · exact stuck_end hp2
    · exact .inr hst
  conv => cbv
  have o := ofN_ hA n1
  refine ⟨Int × Int, fun x => ⟨[(8, .v (.int .i64 x.1)), (7, .v (.int .i64 x.2)), (5, .v (.slice a1 n1 c1)), (1, .v (.bool pr))], R1, [], 0, []⟩,
    fun k x => ∃ j : Nat, x.1 = j ∧ j ≤ l.length ∧ k = l.length - j ∧ x.2 = (soS pr (l.take j)).1,
    ⟨l.length, (0, 0), ⟨⟨rfl, rfl, rfl, rfl, trivial⟩, rfl, trivial, rfl, .refl _⟩, 0, rfl, by omega, rfl, rfl⟩, ?_⟩
  rintro k ⟨i, N⟩ ⟨j, hi, hj, hk, hN⟩
  simp only at hi hN
  conv => cbv
  have hNr := soS_range pr (l.take j)
  rw [← hN, List.length_take] at hNr
  by_cases hlt : j < l.length
  case neg =>
    refine br_f (by rw [o, cmp_lss hA]; simp; omega) ?_
    conv => cbv
    intro ρ R'' _ _ _
    refine ⟨_, rfl, l, p, ht, hst, ?_⟩
    rw [hN, List.take_of_length_le (by omega)]
  refine br_t (by rw [o, cmp_lss hA]; simp; omega) ?_
  conv => cbv
  obtain ⟨t, hxt⟩ : ∃ q, l[j]? = some q := ⟨_, List.getElem?_eq_getElem (by omega)⟩
  refine ix_at hA g0 j hi (by omega) ?_
  refine ld_fld hA g0 j hi hxt 0 ?_
  rintro _ - ⟨b3, m3, d3, rfl, k3, k4⟩
  refine ⟨_, rfl, ?_⟩
  conv => cbv
  have r0 := hop t (List.mem_of_getElem? hxt)
  have ei : bin .add .i64 i 1 = i + 1 := add_i64 hA (by omega)
  by_cases h1 : t.op = 172
  · have q1 : cmp .eql t.op 172 = true := by rw [cmp_eql hA]; simpa using h1
    simp only [q1]
    conv => cbv
    have eN : bin .add .i64 N 1 = N + 1 := add_i64 hA (by omega)
    refine ⟨l.length - (j + 1), (i + 1, N + 1), by omega, ⟨⟨?_, ?_, rfl, rfl, trivial⟩, rfl, trivial, rfl, .refl _⟩, j + 1, by show i + 1 = ((j + 1 : Nat) : Int); omega, by omega, rfl, ?_⟩
    · rw [ei]
      rfl
    · rw [eN]
      rfl
    show N + 1 = _
    rw [soS_take hxt, hN]
    congr 1
    symm
    unfold so1
    rw [if_pos (by omega)]
  have q1 : cmp .eql t.op 172 = false := by rw [cmp_eql hA]; simpa using h1
  simp only [q1]
  conv => cbv
  by_cases h2 : t.op = 173
  · refine br_t (by rw [cmp_eql hA]; simpa using h2) ?_
    conv => cbv
    have eN : bin .add .i64 N 1 = N + 1 := add_i64 hA (by omega)
    refine ⟨l.length - (j + 1), (i + 1, N + 1), by omega, ⟨⟨?_, ?_, rfl, rfl, trivial⟩, rfl, trivial, rfl, .refl _⟩, j + 1, by show i + 1 = ((j + 1 : Nat) : Int); omega, by omega, rfl, ?_⟩
    · rw [ei]
      rfl
    · rw [eN]
      rfl
    show N + 1 = _
    rw [soS_take hxt, hN]
    congr 1
    symm
    unfold so1
    rw [if_pos (by omega)]
  refine br_f (by rw [cmp_eql hA]; simpa using h2) ?_
  conv => cbv
  by_cases h3 : t.op = 174 ∨ t.op = 175
  case neg =>
    have q3 : cmp .eql t.op 174 = false := by rw [cmp_eql hA]; simp; omega
    simp only [q3]
    conv => cbv
    have q3' : cmp .eql t.op 175 = false := by rw [cmp_eql hA]; simp; omega
    simp only [q3']
    conv => cbv
    refine ⟨l.length - (j + 1), (i + 1, N), by omega, ⟨⟨?_, rfl, rfl, rfl, trivial⟩, rfl, trivial, rfl, .refl _⟩, j + 1, by show i + 1 = ((j + 1 : Nat) : Int); omega, by omega, rfl, ?_⟩
    · rw [ei]
      rfl
    · show N = _
      rw [soS_take hxt, hN]
      unfold so1
      rw [if_neg (by omega), if_neg (by omega)]
      simp
  obtain ⟨b4, hb4⟩ : ∃ b4, b4 = cmp .eql t.op 174 := ⟨_, rfl⟩
  rw [← hb4]
  have hb5 : b4 = false → cmp .eql t.op 175 = true := fun h => by
    rw [h, cmp_eql hA] at hb4
    rw [cmp_eql hA]
    simp at hb4 ⊢
    omega
  clear hb4
  cases b4
  · conv => cbv
    refine br_t (hb5 rfl) ?_
    clear hb5
    conv => cbv
    cases pr with
    | false =>
      obtain ⟨_, hlast⟩ : ∃ z, (soS false (l.take j)).2 = z := ⟨_, rfl⟩
      conv => cbv
      have eN : bin .add .i64 N 20 = N + 20 := add_i64 hA (by omega)
      refine ⟨l.length - (j + 1), (i + 1, N + 20), by omega, ⟨⟨?_, ?_, rfl, rfl, trivial⟩, rfl, trivial, rfl, .refl _⟩, j + 1, by show i + 1 = ((j + 1 : Nat) : Int); omega, by omega, rfl, ?_⟩
      · rw [ei]
        rfl
      · rw [eN]
        rfl
      show N + 20 = _
      rw [soS_take hxt, hN]
      congr 1
      symm
      unfold so1
      rw [if_neg (by omega), if_pos (by omega), if_neg (by rw [hlast]; simp <;> omega)]
    | true =>
    conv => cbv
    by_cases j0 : j = 0
    · have q4 : cmp .gtr i 0 = false := by rw [cmp_gtr hA]; simp; omega
      simp only [q4]
      have hlast : (soS true (l.take j)).2 = 255 := by rw [j0]; rfl
      conv => cbv
      have eN : bin .add .i64 N 20 = N + 20 := add_i64 hA (by omega)
      refine ⟨l.length - (j + 1), (i + 1, N + 20), by omega, ⟨⟨?_, ?_, rfl, rfl, trivial⟩, rfl, trivial, rfl, .refl _⟩, j + 1, by show i + 1 = ((j + 1 : Nat) : Int); omega, by omega, rfl, ?_⟩
      · rw [ei]
        rfl
      · rw [eN]
        rfl
      show N + 20 = _
      rw [soS_take hxt, hN]
      congr 1
      symm
      unfold so1
      rw [if_neg (by omega), if_pos (by omega), if_neg (by rw [hlast]; simp <;> omega)]
    have q4 : cmp .gtr i 0 = true := by rw [cmp_gtr hA]; simp; omega
    simp only [q4]
    conv => cbv
    obtain ⟨m, hjm⟩ : ∃ m, j = m + 1 := ⟨j - 1, by omega⟩
    obtain ⟨u, hxu⟩ : ∃ q, l[m]? = some q := ⟨_, List.getElem?_eq_getElem (by omega)⟩
    have hlast : (soS true (l.take j)).2 = u.op := by rw [hjm, soS_take hxu]
    have em : bin .sub .i64 i 1 = (m : Int) := by rw [sub_i64 hA (by omega)]; omega
    refine ix_at hA g0 m em (by omega) ?_
    refine ld_fld hA g0 m em hxu 0 ?_
    rintro _ - ⟨b7, m7, d7, rfl, k7, k8⟩
    refine ⟨_, rfl, ?_⟩
    conv => cbv
    have r7 := hop u (List.mem_of_getElem? hxu)
    by_cases h81 : 81 ≤ u.op
    case neg =>
      have q5 : cmp .geq u.op 81 = false := by rw [cmp_geq hA]; simp; omega
      simp only [q5]
      conv => cbv
      have eN : bin .add .i64 N 20 = N + 20 := add_i64 hA (by omega)
      refine ⟨l.length - (j + 1), (i + 1, N + 20), by omega, ⟨⟨?_, ?_, rfl, rfl, trivial⟩, rfl, trivial, rfl, .refl _⟩, j + 1, by show i + 1 = ((j + 1 : Nat) : Int); omega, by omega, rfl, ?_⟩
      · rw [ei]
        rfl
      · rw [eN]
        rfl
      show N + 20 = _
      rw [soS_take hxt, hN]
      congr 1
      symm
      unfold so1
      rw [if_neg (by omega), if_pos (by omega), if_neg (by rw [hlast]; simp <;> omega)]
    have q5 : cmp .geq u.op 81 = true := by rw [cmp_geq hA]; simp; omega
    simp only [q5]
    conv => cbv
    refine ix_at hA g0 m em (by omega) ?_
    refine ld_fld hA g0 m em hxu 0 ?_
    rintro _ - ⟨b8, m8, d8, rfl, k9, k10⟩
    refine ⟨_, rfl, ?_⟩
    conv => cbv
    by_cases h96 : u.op ≤ 96
    case neg =>
      have q6 : cmp .leq u.op 96 = false := by rw [cmp_leq hA]; simp; omega
      simp only [q6]
      conv => cbv
      have eN : bin .add .i64 N 20 = N + 20 := add_i64 hA (by omega)
      refine ⟨l.length - (j + 1), (i + 1, N + 20), by omega, ⟨⟨?_, ?_, rfl, rfl, trivial⟩, rfl, trivial, rfl, .refl _⟩, j + 1, by show i + 1 = ((j + 1 : Nat) : Int); omega, by omega, rfl, ?_⟩
      · rw [ei]
        rfl
      · rw [eN]
        rfl
      show N + 20 = _
      rw [soS_take hxt, hN]
      congr 1
      symm
      unfold so1
      rw [if_neg (by omega), if_pos (by omega), if_neg (by rw [hlast]; simp <;> omega)]
    have q6 : cmp .leq u.op 96 = true := by rw [cmp_leq hA]; simp; omega
    simp only [q6]
    conv => cbv
    refine ix_at hA g0 m em (by omega) ?_
    refine ld_fld hA g0 m em hxu 0 ?_
    rintro _ - ⟨b9, m9, d9, rfl, k11, k12⟩
    refine ⟨_, rfl, ?_⟩
    conv => cbv
    have e7 : bin .sub .i64 u.op 81 = u.op - 81 := sub_i64 hA (by omega)
    have e8 : bin .add .i64 (bin .sub .i64 u.op 81) 1 = u.op - 80 := by rw [e7, add_i64 hA (by omega)]; omega
    generalize bin .add .i64 (bin .sub .i64 u.op 81) 1 = W at e8 ⊢
    have eN : bin .add .i64 N W = N + W := add_i64 hA (by omega)
    refine ⟨l.length - (j + 1), (i + 1, N + W), by omega, ⟨⟨?_, ?_, rfl, rfl, trivial⟩, rfl, trivial, rfl, .refl _⟩, j + 1, by show i + 1 = ((j + 1 : Nat) : Int); omega, by omega, rfl, ?_⟩
    · rw [ei]
      rfl
    · rw [eN]
      rfl
    show N + W = _
    rw [soS_take hxt, hN]
    congr 1
    symm
    unfold so1
    rw [if_neg (by omega), if_pos (by omega), if_pos ⟨rfl, by omega, by omega⟩, hlast, e8]
  · conv => cbv
    clear hb5
    conv => cbv
    cases pr with
    | false =>
      obtain ⟨_, hlast⟩ : ∃ z, (soS false (l.take j)).2 = z := ⟨_, rfl⟩
      conv => cbv
      have eN : bin .add .i64 N 20 = N + 20 := add_i64 hA (by omega)
      refine ⟨l.length - (j + 1), (i + 1, N + 20), by omega, ⟨⟨?_, ?_, rfl, rfl, trivial⟩, rfl, trivial, rfl, .refl _⟩, j + 1, by show i + 1 = ((j + 1 : Nat) : Int); omega, by omega, rfl, ?_⟩
      · rw [ei]
        rfl
      · rw [eN]
        rfl
      show N + 20 = _
      rw [soS_take hxt, hN]
      congr 1
      symm
      unfold so1
      rw [if_neg (by omega), if_pos (by omega), if_neg (by rw [hlast]; simp <;> omega)]
    | true =>
    conv => cbv
    by_cases j0 : j = 0
    · have q4 : cmp .gtr i 0 = false := by rw [cmp_gtr hA]; simp; omega
      simp only [q4]
      have hlast : (soS true (l.take j)).2 = 255 := by rw [j0]; rfl
      conv => cbv
      have eN : bin .add .i64 N 20 = N + 20 := add_i64 hA (by omega)
      refine ⟨l.length - (j + 1), (i + 1, N + 20), by omega, ⟨⟨?_, ?_, rfl, rfl, trivial⟩, rfl, trivial, rfl, .refl _⟩, j + 1, by show i + 1 = ((j + 1 : Nat) : Int); omega, by omega, rfl, ?_⟩
      · rw [ei]
        rfl
      · rw [eN]
        rfl
      show N + 20 = _
      rw [soS_take hxt, hN]
      congr 1
      symm
      unfold so1
      rw [if_neg (by omega), if_pos (by omega), if_neg (by rw [hlast]; simp <;> omega)]
    have q4 : cmp .gtr i 0 = true := by rw [cmp_gtr hA]; simp; omega
    simp only [q4]
    conv => cbv
    obtain ⟨m, hjm⟩ : ∃ m, j = m + 1 := ⟨j - 1, by omega⟩
    obtain ⟨u, hxu⟩ : ∃ q, l[m]? = some q := ⟨_, List.getElem?_eq_getElem (by omega)⟩
    have hlast : (soS true (l.take j)).2 = u.op := by rw [hjm, soS_take hxu]
    have em : bin .sub .i64 i 1 = (m : Int) := by rw [sub_i64 hA (by omega)]; omega
    refine ix_at hA g0 m em (by omega) ?_
    refine ld_fld hA g0 m em hxu 0 ?_
    rintro _ - ⟨b7, m7, d7, rfl, k7, k8⟩
    refine ⟨_, rfl, ?_⟩
    conv => cbv
    have r7 := hop u (List.mem_of_getElem? hxu)
    by_cases h81 : 81 ≤ u.op
    case neg =>
      have q5 : cmp .geq u.op 81 = false := by rw [cmp_geq hA]; simp; omega
      simp only [q5]
      conv => cbv
      have eN : bin .add .i64 N 20 = N + 20 := add_i64 hA (by omega)
      refine ⟨l.length - (j + 1), (i + 1, N + 20), by omega, ⟨⟨?_, ?_, rfl, rfl, trivial⟩, rfl, trivial, rfl, .refl _⟩, j + 1, by show i + 1 = ((j + 1 : Nat) : Int); omega, by omega, rfl, ?_⟩
      · rw [ei]
        rfl
      · rw [eN]
        rfl
      show N + 20 = _
      rw [soS_take hxt, hN]
      congr 1
      symm
      unfold so1
      rw [if_neg (by omega), if_pos (by omega), if_neg (by rw [hlast]; simp <;> omega)]
    have q5 : cmp .geq u.op 81 = true := by rw [cmp_geq hA]; simp; omega
    simp only [q5]
    conv => cbv
    refine ix_at hA g0 m em (by omega) ?_
    refine ld_fld hA g0 m em hxu 0 ?_
    rintro _ - ⟨b8, m8, d8, rfl, k9, k10⟩
    refine ⟨_, rfl, ?_⟩
    conv => cbv
    by_cases h96 : u.op ≤ 96
    case neg =>
      have q6 : cmp .leq u.op 96 = false := by rw [cmp_leq hA]; simp; omega
      simp only [q6]
      conv => cbv
      have eN : bin .add .i64 N 20 = N + 20 := add_i64 hA (by omega)
      refine ⟨l.length - (j + 1), (i + 1, N + 20), by omega, ⟨⟨?_, ?_, rfl, rfl, trivial⟩, rfl, trivial, rfl, .refl _⟩, j + 1, by show i + 1 = ((j + 1 : Nat) : Int); omega, by omega, rfl, ?_⟩
      · rw [ei]
        rfl
      · rw [eN]
        rfl
      show N + 20 = _
      rw [soS_take hxt, hN]
      congr 1
      symm
      unfold so1
      rw [if_neg (by omega), if_pos (by omega), if_neg (by rw [hlast]; simp <;> omega)]
    have q6 : cmp .leq u.op 96 = true := by rw [cmp_leq hA]; simp; omega
    simp only [q6]
    conv => cbv
    refine ix_at hA g0 m em (by omega) ?_
    refine ld_fld hA g0 m em hxu 0 ?_
    rintro _ - ⟨b9, m9, d9, rfl, k11, k12⟩
    refine ⟨_, rfl, ?_⟩
    conv => cbv
    have e7 : bin .sub .i64 u.op 81 = u.op - 81 := sub_i64 hA (by omega)
    have e8 : bin .add .i64 (bin .sub .i64 u.op 81) 1 = u.op - 80 := by rw [e7, add_i64 hA (by omega)]; omega
    generalize bin .add .i64 (bin .sub .i64 u.op 81) 1 = W at e8 ⊢
    have eN : bin .add .i64 N W = N + W := add_i64 hA (by omega)
    refine ⟨l.length - (j + 1), (i + 1, N + W), by omega, ⟨⟨?_, ?_, rfl, rfl, trivial⟩, rfl, trivial, rfl, .refl _⟩, j + 1, by show i + 1 = ((j + 1 : Nat) : Int); omega, by omega, rfl, ?_⟩
    · rw [ei]
      rfl
    · rw [eN]
      rfl
    show N + W = _
    rw [soS_take hxt, hN]
    congr 1
    symm
    unfold so1
    rw [if_neg (by omega), if_pos (by omega), if_pos ⟨rfl, by omega, by omega⟩, hlast, e8]
end Go.Proofs.Ytbakdoienfmacaa.Tk
