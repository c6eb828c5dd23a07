/- A call that is handed some of the rows alone: the other rows, and the blocks of the call's own, stay as they are. -/
/- The types that some functions name, as the evaluator wants them. Printed by a program of my own (seatgen.py). -/
/- SHA-256: what a digest's row holds; a block's call. -/
/- The types that some functions name, as the evaluator wants them. Printed by a program of my own (seatgen.py). -/
import Derived.Test.YtepfbdfbfimefaaDoorMPrm
import Derived.Test.YtepfbdfbfimefaaDoorSl
import Derived.Test.YtepfbdfbfimefaaDoorProg
import Derived.KernelRfl
section
set_option linter.unusedSimpArgs false
set_option linter.unusedVariables false
namespace Go.Se
open Go

theorem RowOk.same {w w' : World} {r : Row} (h : RowOk w r) (hs : ∀ g, r.v.ownBlock = some g → w'.heap[g]? = w.heap[g]?) : RowOk w' r := by
  rcases h with ⟨h1, h0, h2⟩ | ⟨h1, h2, bs, h4, h50, h5⟩ | ⟨h1, h2, g, s, pos, h3, h4, h5, h6, h7⟩
  · refine .inl ⟨h1, h0, ?_⟩
    rcases h2 with h | ⟨g, cap, cur, h3, h4, ⟨fz, h5, h6⟩, h7⟩
    · exact .inl h
    · exact .inr ⟨g, cap, cur, h3, h4, ⟨fz, by rw [hs g (by rw [h3]; rfl)]; exact h5, h6⟩, h7⟩
  · refine .inr (.inl ⟨h1, h2, bs, h4, h50, ?_⟩)
    rcases h5 with h | ⟨g, cap, cur, fz, h3, h4, h5, h7⟩
    · exact .inl h
    · exact .inr ⟨g, cap, cur, fz, h3, h4, by rw [hs g (by rw [h3]; rfl)]; exact h5, h7⟩
  · exact .inr (.inr ⟨h1, h2, g, s, pos, h3, h4, h5, h6, by rw [hs g (by rw [Row.v, h3]; rfl)]; exact h7⟩)

theorem CallP.frame {P : Program} {f : Nat} {vs : List Value} {R : RO} {rs : List Row} {K0 : RO → List (Nat × HB) → Nat → List Row → SV → Prop} (h : CallP P f (vs.map .v) R [] 0 rs K0)
    {args : List SV} (ha : args = vs.map .v) {hp : List (Nat × HB)} {nx : Nat} {fr all : List Row} (hall : all.Perm (rs ++ fr)) {K : RO → List (Nat × HB) → Nat → List Row → SV → Prop}
    (hk : ∀ R' hp' nx' rs' r, R.le R' → K0 R' hp' nx' rs' r → ∃ r2 rs2 ex all2, (∀ ρ1 ρ2, val ρ1 r = val ρ2 r2) ∧ lab nx r2 ∧ rs'.Perm (ex ++ rs2) ∧ (rs2 ++ fr).Perm all2 ∧ K R' hp nx all2 r2) : CallP P f args R hp nx all K := by
  subst ha
  refine CallP.perm hall ⟨h.fn, fun ρ w hr => ?_⟩
  have hmem : ∀ r ∈ rs, r ∈ rs ++ fr := fun r h => List.mem_append_left _ h
  have hfm : ∀ r ∈ fr, r ∈ rs ++ fr := fun r h => List.mem_append_right _ h
  have hpp := List.pairwise_append.1 hr.rpair
  have hg := h.go (fun _ => 0) w ⟨fun l b hf => by simp [find] at hf, fun l _ hl => absurd hl (by omega), fun l hl => absurd hl (by omega), hr.ro,
    fun l b hf => by simp [find] at hf, fun l b hf => by simp [find] at hf, fun r h => hr.row r (hmem r h), fun r h g hg => ⟨(hr.rdis r (hmem r h) g hg).1, fun l b hf => by simp [find] at hf⟩, hpp.1⟩
  rw [valL_raw] at hg ⊢
  refine hg.mono fun ee w' ⟨R', hp', nx', rs', ρ', r, q1, q2, q3, q4, q5, q6, q7, qr, q8, q9, q10⟩ => ?_
  obtain ⟨r2, rs2, ex, all2, hv, hlb, hperm, hall2, hK⟩ := hk _ _ _ _ _ q4 q10
  have hown : ∀ b, Own (fun _ => 0) 0 rs b → ∃ r ∈ rs, r.blk = some b := fun b hb => by
    rcases hb with ⟨l, hl, _⟩ | h
    · omega
    · exact h
  have hsub : ∀ b, Own (fun _ => 0) 0 rs b → Own ρ nx (rs ++ fr) b := fun b hb => by
    obtain ⟨r, h1, h2⟩ := hown b hb
    exact .inr ⟨r, hmem r h1, h2⟩
  have hlt : ∀ k o, R k = some o → k < w.heap.size := fun k o hb => by
    have h1 := hr.ro k o hb
    rcases Nat.lt_or_ge k w.heap.size with h2 | h2
    · exact h2
    · rw [Array.getElem?_eq_none h2] at h1; cases h1
  have hbl : ∀ l b, find hp l = some b → ¬ Own (fun _ => 0) 0 rs (ρ l) := fun l b hb ho => by
    obtain ⟨r, h1, h2⟩ := hown _ ho
    exact (hr.rdis r (hmem r h1) _ h2).2 l b hb rfl
  have hfr : ∀ q ∈ fr, ∀ g, q.blk = some g → ¬ Own (fun _ => 0) 0 rs g := fun q hq g hg ho => by
    obtain ⟨r, h1, h2⟩ := hown _ ho
    exact hpp.2.2 r h1 q hq g h2 hg
  have hno : ∀ k, k < w.heap.size → ¬ Own (fun _ => 0) 0 rs k → R k = none → R' k = none := fun k hk hn hR => by
    cases hx : R' k with
    | none => rfl
    | some o =>
      rcases q5 k o hx with h | h | h
      · rw [hR] at h; cases h
      · omega
      · exact absurd h hn
  have hm2 : ∀ q ∈ rs2, q ∈ rs' := fun q hq => hperm.mem_iff.2 (List.mem_append_right _ hq)
  have hnew : ∀ q ∈ rs2, ∀ g, q.blk = some g → w.heap.size ≤ g ∨ Own (fun _ => 0) 0 rs g := fun q hq g hg => qr q (hm2 q hq) g hg
  have hrel : HRel R' hp nx (rs2 ++ fr) ρ w' := by
    refine ⟨fun l b hb => ?_, hr.inj, fun l hl => Nat.lt_of_lt_of_le (hr.lt l hl) q7.size, q6.ro, fun l b hb => hno _ (hr.lt l (hr.wf l b hb).1) (hbl l b hb) (hr.dis l b hb), hr.wf, fun q hq => ?_, fun q hq g hg => ?_, ?_⟩
    · rw [q7.block _ (hr.lt l (hr.wf l b hb).1) (hbl l b hb)]
      exact hr.blk l b hb
    · rcases List.mem_append.1 hq with hq | hq
      · exact q6.row q (hm2 q hq)
      · exact (hr.row q (hfm q hq)).same fun g hg => q7.block g (row_lt hr (hfm q hq) hg) (hfr q hq g hg)
    · rcases List.mem_append.1 hq with hq | hq
      · refine ⟨(q6.rdis q (hm2 q hq) g hg).1, fun l b hb he => ?_⟩
        rcases hnew q hq g hg with h | h
        · have := hr.lt l (hr.wf l b hb).1
          omega
        · exact hbl l b hb (he ▸ h)
      · refine ⟨hno g (row_lt hr (hfm q hq) hg) (hfr q hq g hg) (hr.rdis q (hfm q hq) g hg).1, fun l b hb he => (hr.rdis q (hfm q hq) g hg).2 l b hb he⟩
    · have h3 : (ex ++ rs2).Pairwise fun r r' => ∀ g, r.blk = some g → r'.blk ≠ some g := (hperm.pairwise_iff (R := fun r r' : Row => ∀ g, r.blk = some g → r'.blk ≠ some g) (fun hab g h1 h2 => hab g h2 h1)).1 q6.rpair
      refine List.pairwise_append.2 ⟨(List.pairwise_append.1 h3).2.1, hpp.2.1, fun q hq p hp g hqg hpg => ?_⟩
      rcases hnew q hq g hqg with h | h
      · have := row_lt hr (hfm p hp) hpg
        omega
      · exact hfr p hp g hpg h
  refine ⟨R', hp, nx, all2, ρ, r2, fun _ _ => rfl, Nat.le_refl _, fun l a c => absurd a (by omega), q4, fun k o hx => (q5 k o hx).imp id (Or.imp id (hsub k)), hrel.perm hall2, ⟨q7.os, q7.tape, q7.output, q7.size, fun k hk hn => q7.block k hk fun ho => hn (hsub k ho)⟩,
    fun q hq g hg => ?_, by rw [q8, hv ρ' ρ], hlb, hK⟩
  rcases List.mem_append.1 (hall2.mem_iff.2 hq) with hq | hq
  · exact (hnew q hq g hg).imp id (hsub g)
  · exact .inr (.inr ⟨q, hfm q hq, hg⟩)
end Go.Se
end
section
namespace Go.Proofs.YtepfbdfbfimefaaDoor.Tysc
open Go Go.Se Go.Proofs


/-- function 84: crypto/internal/fips140/sha256.block -/
def tys84 : Nat → Option Ty := fun t => find [] t
theorem ok84 : TysOk Tryd.prog tys84 := tysOk_of trivial
end Go.Proofs.YtepfbdfbfimefaaDoor.Tysc
end
section
set_option linter.unusedSimpArgs false
set_option linter.unusedVariables false
namespace Go.Proofs.YtepfbdfbfimefaaDoor.Sha
open Go Go.Se Go.Proofs Go.Proofs.YtepfbdfbfimefaaDoor.Tysc

/-- A digest's cells. -/
def dz (s : S8) (buf : List Int) (r m : Int) : List Value := s.cs ++ (ints .u8 buf ++ [.int .i64 r, .int .u64 m, .bool false])

theorem app_at {α : Type} (xs ys : List α) (n j : Nat) (h : n = xs.length + j) : (xs ++ ys)[n]? = ys[j]? := by
  rw [h, List.getElem?_append_right (by omega), Nat.add_sub_cancel_left]

theorem app_put {α : Type} (xs ys vs : List α) (n j : Nat) (h : n = xs.length + j) : (xs ++ ys).take n ++ vs ++ (xs ++ ys).drop (n + vs.length) = xs ++ (ys.take j ++ vs ++ ys.drop (j + vs.length)) := by
  rw [h, List.take_append, List.drop_append, List.take_of_length_le (by omega), List.drop_eq_nil_of_le (show xs.length ≤ xs.length + j + vs.length by omega), Nat.add_sub_cancel_left, show xs.length + j + vs.length - xs.length = j + vs.length by omega]
  simp

section
variable (s : S8) (buf : List Int) (hb : buf.length = 64) (r m : Int)
include hb

theorem dz_len : (dz s buf r m).length = 75 := by simp [dz, S8.cs, ints, hb]

theorem dz_72 : (dz s buf r m)[72]? = some (.int .i64 r) := by
  rw [dz, app_at _ _ 72 64 rfl, app_at _ _ 64 0 (by rw [ints_len, hb])]
  rfl
theorem dz_73 : (dz s buf r m)[73]? = some (.int .u64 m) := by
  rw [dz, app_at _ _ 73 65 rfl, app_at _ _ 65 1 (by rw [ints_len, hb])]
  rfl
theorem dz_74 : (dz s buf r m)[74]? = some (.bool false) := by
  rw [dz, app_at _ _ 74 66 rfl, app_at _ _ 66 2 (by rw [ints_len, hb])]
  rfl
theorem dz_x (j : Nat) (h : j < 64) : (dz s buf r m)[8 + j]? = some (.int .u8 (buf.getD j 0)) := by
  rw [dz, app_at _ _ (8 + j) j rfl, List.getElem?_append_left (by rw [ints_len]; omega), ints_get (by omega)]
theorem dz_s72 (v : Int) : (dz s buf r m).take 72 ++ [.int .i64 v] ++ (dz s buf r m).drop (72 + 1) = dz s buf v m := by
  rw [dz, show 72 + 1 = 72 + [Value.int .i64 v].length from rfl, app_put _ _ _ 72 64 rfl, app_put _ _ _ 64 0 (by rw [ints_len, hb])]
  rfl
theorem dz_s73 (v : Int) : (dz s buf r m).take 73 ++ [.int .u64 v] ++ (dz s buf r m).drop (73 + 1) = dz s buf r v := by
  rw [dz, show 73 + 1 = 73 + [Value.int .u64 v].length from rfl, app_put _ _ _ 73 65 rfl, app_put _ _ _ 65 1 (by rw [ints_len, hb])]
  rfl
theorem dz_cp (ys : List Int) (i : Nat) (h : i + ys.length ≤ 64) : (dz s buf r m).take (8 + i) ++ ints .u8 ys ++ (dz s buf r m).drop (8 + i + ys.length) = dz s (buf.take i ++ ys ++ buf.drop (i + ys.length)) r m := by
  rw [dz, show 8 + i + ys.length = 8 + i + (ints .u8 ys).length by rw [ints_len], app_put _ _ _ (8 + i) i rfl, dz]
  congr 1
  rw [List.take_append_of_le_length (by rw [ints_len]; omega), List.drop_append_of_le_length (by rw [ints_len, ints_len]; omega)]
  simp [ints, List.map_take, List.map_drop]
end

theorem kc_mono {R : RO} {rs rs' : List Row} {ad : Addr} {v : Value} (h : KCell R rs ad v) (hm : ∀ r ∈ rs, r ∈ rs') : KCell R rs' ad v :=
  h.imp id fun ⟨r, h1, h2⟩ => ⟨r, hm r h1, h2⟩

/-- A digest's row. -/
def digR (D : Addr) (zs : List Value) : Row := ⟨some D, 75, 75, 92, 1, zs⟩

set_option maxRecDepth 100000 in
/-- The blocks of a stretch, into the digest. -/
theorem blockD {P : Program} (hP : P = Tryd.prog) (R : RO) (K : List Int) (hK : RI R .u32 (some ⟨3, 0, none⟩) 64 K) (rs : List Row) (D : Addr) (zs : List Value) (s : S8) (buf : List Int) (r m : Int) (hz : zs = dz s buf r m)
    (pa : Addr) (N Cp q : Nat) (hNC : N ≤ Cp) (hq : N = 64 * q) (hN : N ≤ 100000) (ps : List Int) (hp : ∀ j, j < N → KCell R (⟨some D, 75, 75, 92, 1, zs⟩ :: rs) (pa.add j) (.int .u8 (ps.getD j 0)))
    {K' : RO → List (Nat × HB) → Nat → List Row → SV → Prop}
    (hg : ∀ zs', zs' = dz (cmpr K q ps s) buf r m → K' R [] 0 (⟨some D, 75, 75, 92, 1, zs'⟩ :: rs) (.tu [])) :
    CallP P 84 [.v (.pointer (some D)), .v (.slice (some pa) N Cp)] R [] 0 (⟨some D, 75, 75, 92, 1, zs⟩ :: rs) K' := by
  refine CallP.frame (vs := [.pointer (some D), .slice (some pa) N Cp]) (rs := ⟨some D, 75, 75, 92, 1, zs⟩ :: rs) (fr := []) (K0 := fun R' hp' nx' rs' r' => ∃ (w : Row) (zs' : List Value), rs' = [w] ++ (⟨some D, 75, 75, 92, 1, zs'⟩ :: rs) ∧ zs' = dz (cmpr K q ps s) buf r m ∧ R' = R ∧ r' = .tu []) ?_ rfl (by rw [List.append_nil]) ?_
  · subst hP
    refine callP_of_vc (fz := []) Tryd.func84 rfl (by decide) (Nat.le_of_ble_eq_true rfl) ok84 (by simp [labL, lab]) ?_
    rintro P ⟨bin, cmp, cnv, neg, com, bnot, beq, ofN, toN, at_, sub_, scmp, cat, sget, ssz, ssub, elem, fld_⟩ hP hA
    conv => cbv
    refine blockC hP R K hK rs D zs (ints .u8 buf ++ [.int .i64 r, .int .u64 m, .bool false]) s s.a s.b s.c s.d s.e s.f s.g s.h rfl (by rw [hz]; rfl) pa N Cp q hNC hq hN ps (fun w j hj => kc_mono (hp j hj) (fun r h => List.mem_cons_of_mem _ h)) ?_
    intro w zs' a1 b1 c1 d1 e1 f1 g1 h1 hs hz'
    conv => cbv
    refine ⟨w, zs', rfl, ?_, rfl, rfl⟩
    rw [← blks_cmpr K q ps s (List.replicate 64 0) (by simp), hs]
    exact hz'
  · rintro R' hp' nx' rs' r' - ⟨w, zs', rfl, hz', rfl, rfl⟩
    exact ⟨.tu [], _, [w], _, fun _ _ => rfl, trivial, .refl _, by rw [List.append_nil], hg zs' hz'⟩
end Go.Proofs.YtepfbdfbfimefaaDoor.Sha
end
section
namespace Go.Proofs.YtepfbdfbfimefaaDoor.Tysd
open Go Go.Se Go.Proofs

/-- int -/
def y3 : Ty := ⟨.int .i64, 1, false, .int .i64 0, 8⟩
theorem ty3 : tyOf Tryd.prog 3 = some y3 := by kernel_rfl
/-- bool -/
def y4 : Ty := ⟨.bool, 1, false, .bool false, 1⟩
theorem ty4 : tyOf Tryd.prog 4 = some y4 := by kernel_rfl
/-- uint8 -/
def y5 : Ty := ⟨.int .u8, 1, false, .int .u8 0, 1⟩
theorem ty5 : tyOf Tryd.prog 5 = some y5 := by kernel_rfl
/-- []uint8 -/
def y22 : Ty := ⟨.slc 5, 1, false, .slice none 0 0, 24⟩
theorem ty22 : tyOf Tryd.prog 22 = some y22 := by kernel_rfl
/-- uint64 -/
def y33 : Ty := ⟨.int .u64, 1, false, .int .u64 0, 8⟩
theorem ty33 : tyOf Tryd.prog 33 = some y33 := by kernel_rfl
/-- uint32 -/
def y68 : Ty := ⟨.int .u32, 1, false, .int .u32 0, 4⟩
theorem ty68 : tyOf Tryd.prog 68 = some y68 := by kernel_rfl
/-- [8]uint32 -/
def y89 : Ty := ⟨.arr 8 68, 8, true, .agg #[.int .u32 0, .int .u32 0, .int .u32 0, .int .u32 0, .int .u32 0, .int .u32 0, .int .u32 0, .int .u32 0], 32⟩
theorem ty89 : tyOf Tryd.prog 89 = some y89 := by kernel_rfl
/-- [64]uint8 -/
def y90 : Ty := ⟨.arr 64 5, 64, true, .agg #[.int .u8 0, .int .u8 0, .int .u8 0, .int .u8 0, .int .u8 0, .int .u8 0, .int .u8 0, .int .u8 0, .int .u8 0, .int .u8 0, .int .u8 0, .int .u8 0, .int .u8 0, .int .u8 0, .int .u8 0, .int .u8 0, .int .u8 0, .int .u8 0, .int .u8 0, .int .u8 0, .int .u8 0, .int .u8 0, .int .u8 0, .int .u8 0, .int .u8 0, .int .u8 0, .int .u8 0, .int .u8 0, .int .u8 0, .int .u8 0, .int .u8 0, .int .u8 0, .int .u8 0, .int .u8 0, .int .u8 0, .int .u8 0, .int .u8 0, .int .u8 0, .int .u8 0, .int .u8 0, .int .u8 0, .int .u8 0, .int .u8 0, .int .u8 0, .int .u8 0, .int .u8 0, .int .u8 0, .int .u8 0, .int .u8 0, .int .u8 0, .int .u8 0, .int .u8 0, .int .u8 0, .int .u8 0, .int .u8 0, .int .u8 0, .int .u8 0, .int .u8 0, .int .u8 0, .int .u8 0, .int .u8 0, .int .u8 0, .int .u8 0, .int .u8 0], 64⟩
theorem ty90 : tyOf Tryd.prog 90 = some y90 := by kernel_rfl
/-- sha256.Digest -/
def y92 : Ty := ⟨.stc [(0, 89), (8, 90), (72, 3), (73, 33), (74, 4)], 75, true, .agg #[.int .u32 0, .int .u32 0, .int .u32 0, .int .u32 0, .int .u32 0, .int .u32 0, .int .u32 0, .int .u32 0, .int .u8 0, .int .u8 0, .int .u8 0, .int .u8 0, .int .u8 0, .int .u8 0, .int .u8 0, .int .u8 0, .int .u8 0, .int .u8 0, .int .u8 0, .int .u8 0, .int .u8 0, .int .u8 0, .int .u8 0, .int .u8 0, .int .u8 0, .int .u8 0, .int .u8 0, .int .u8 0, .int .u8 0, .int .u8 0, .int .u8 0, .int .u8 0, .int .u8 0, .int .u8 0, .int .u8 0, .int .u8 0, .int .u8 0, .int .u8 0, .int .u8 0, .int .u8 0, .int .u8 0, .int .u8 0, .int .u8 0, .int .u8 0, .int .u8 0, .int .u8 0, .int .u8 0, .int .u8 0, .int .u8 0, .int .u8 0, .int .u8 0, .int .u8 0, .int .u8 0, .int .u8 0, .int .u8 0, .int .u8 0, .int .u8 0, .int .u8 0, .int .u8 0, .int .u8 0, .int .u8 0, .int .u8 0, .int .u8 0, .int .u8 0, .int .u8 0, .int .u8 0, .int .u8 0, .int .u8 0, .int .u8 0, .int .u8 0, .int .u8 0, .int .u8 0, .int .i64 0, .int .u64 0, .bool false], 120⟩
theorem ty92 : tyOf Tryd.prog 92 = some y92 := by kernel_rfl

/-- function 81: (*crypto/internal/fips140/sha256.Digest).Write -/
def tys81 : Nat → Option Ty := fun t => find [(22, y22), (5, y5), (92, y92), (89, y89), (68, y68), (90, y90), (3, y3), (33, y33), (4, y4)] t
theorem ok81 : TysOk Tryd.prog tys81 := tysOk_of ⟨ty22, ty5, ty92, ty89, ty68, ty90, ty3, ty33, ty4, trivial⟩
end Go.Proofs.YtepfbdfbfimefaaDoor.Tysd
end
