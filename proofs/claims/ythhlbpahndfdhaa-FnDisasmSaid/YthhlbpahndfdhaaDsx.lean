/- A builder's string. -/
import Derived.Test.YthhlbpahndfdhaaDsw
import Derived.Test.YthhlbpahndfdhaaTydf
set_option linter.unusedSimpArgs false
set_option linter.unusedVariables false
namespace Go.Se
open Go
/-- Where a slice's bytes lie; nothing is known of the place. -/
theorem gen_sd_any {C : Cx} {s : St} {o : Oper} {c : Call} {a : Option Addr} {n k e : Nat} {K : RO → List (Nat × HB) → Nat → List Row → SV → Prop} (ho : o.op = .call c) (hc : c.callee = .builtin .unsafeSliceData) (ha : evs s c.args.toList = some [.v (.slice a n k)])
    (hT : C.P.underlying o.type = some (.pointer e)) (hr : ∀ ad, a = some ad → ∃ r ∈ s.rw_, r.a = some ad) (hk : ∀ p, K s.R s.hp s.nx s.rw_ (.v (.pointer p))) : GenP C s o K := by
  cases a with
  | none =>
    refine gen_pure (.v (.pointer none)) trivial (fun ρ w hw ev hev => ?_) (hk _)
    have e2 := evs_arr hev ha
    unfold execOp
    rw [ho]
    simp only [resolve, hc, bind, pure, Sem.bind, invoke, builtin, e2, valL, val]
    rw [run_bind_pure (Lib.run_unsafeSliceData_nil w _ _ n k)]
    rfl
  | some ad =>
    by_cases hk0 : k = 0
    case neg =>
      refine gen_pure (.v (.pointer (some ad))) trivial (fun ρ w hw ev hev => ?_) (hk _)
      have e2 := evs_arr hev ha
      unfold execOp
      rw [ho]
      simp only [resolve, hc, bind, pure, Sem.bind, invoke, builtin, e2, valL, val]
      rw [run_bind_pure (Lib.run_unsafeSliceData_row w _ _ ad n k hk0)]
      rfl
    subst hk0
    refine ⟨fun ρ w hw ev hev => ?_⟩
    have e2 := evs_arr hev ha
    obtain ⟨r, hrm, hra⟩ := hr ad rfl
    have h1 := hw.row r hrm
    obtain ⟨g, cap, cur, hv, _, hg, _⟩ : ∃ g cap cur, r.v = .slice (some ⟨g, 0, none⟩) r.n cap ∧ 0 ≤ g ∧ w.heap[g]? = some (.cells cur r.e (0, 0)) ∧ r.n ≤ cap ∧ cap ≤ maxLen ∧ cur.size = cap * r.sz ∧ cur.toList.take (r.n * r.sz) = r.xs := by
      rcases h1.2 with ⟨h2, _⟩ | h2
      · rw [Row.v, hra] at h2; cases h2
      · exact h2
    have hag : ad = ⟨g, 0, none⟩ := by
      rw [Row.v, hra] at hv
      injection hv with hv
      injection hv
    subst hag
    have hrun : (execOp ev o).run C.P w = .ok (.value (.pointer (some ⟨w.heap.size, 0, none⟩))) (w.alloc (.view ⟨g, 0, none⟩ e)) := by
      unfold execOp
      rw [ho]
      simp only [resolve, hc, bind, pure, Sem.bind, invoke, builtin, e2, valL, val]
      rw [run_bind_pure (Lib.run_unsafeSliceData_zero w _ _ e hT ⟨g, 0, none⟩ n (r.e, cur.size) (by simp [World.shape?, hg]))]
      rfl
    rw [hrun]
    have kp : Keep (fun _ => False) w (w.alloc (.view ⟨g, 0, none⟩ e)) := by
      have e1 : (w.alloc (.view ⟨g, 0, none⟩ e)).heap = w.heap.push (.view ⟨g, 0, none⟩ e) := rfl
      refine ⟨rfl, rfl, rfl, by rw [e1, Array.size_push]; omega, fun k hk _ => ?_⟩
      rw [e1, Array.getElem?_push, if_neg (by omega)]
    exact ⟨s.R, s.hp, s.nx, s.rw_, ρ, .v (.pointer (some ⟨w.heap.size, 0, none⟩)), fun _ _ => rfl, Nat.le_refl _, fun l a b => absurd a (by omega), fun _ _ h => h, fun b o hb => .inl hb, hw.keep kp,
      ⟨kp.os, kp.tape, kp.output, kp.size, fun k hk _ => kp.block k hk (fun h => h)⟩, fun q hq g hg => .inr (.inr ⟨q, hq, hg⟩), rfl, trivial, hk _⟩

/-- No byte as a string. -/
theorem gen_ustr0 {C : Cx} {s : St} {o : Oper} {c : Call} {p : Option Addr} {ni : Int} {pt it : Nat} {K : RO → List (Nat × HB) → Nat → List Row → SV → Prop} (ho : o.op = .call c) (hc : c.callee = .builtin .unsafeString) (ha : evs s c.args.toList = some [.v (.pointer p), .v (.int .i64 ni)])
    (hni : ni = 0) (ht : c.argTypes = #[pt, it]) (hk : K s.R s.hp s.nx s.rw_ (.v (.string ⟨#[]⟩))) : GenP C s o K := by
  subst hni
  refine gen_pure (.v (.string ⟨#[]⟩)) trivial (fun ρ w hw ev hev => ?_) hk
  have e2 := evs_arr hev ha
  unfold execOp
  rw [ho]
  simp only [resolve, hc, bind, pure, Sem.bind, invoke, builtin, e2, valL, val, ht]
  rw [run_bind_pure (Lib.run_unsafeString_none w pt it _ p)]
  rfl
end Go.Se
namespace Go.Proofs.Ythhlbpahndfdhaa.Ds
open Go Go.Se Go.Proofs Go.Proofs.Ythhlbpahndfdhaa.Tydf

set_option maxRecDepth 100000 in
set_option maxHeartbeats 2000000 in
theorem strC {P : Program} (hP : P = Try.prog) (R : RO) (ad : SV) (had : ad = .v (.pointer none) ∨ ad = .p 0 0) (a : Option Addr) (n c : Nat) (zs : List Int) (rs : List Row) (hb : Base1 rs [] a n c 5 1 (ints .u8 zs)) (hz : zs.length = n) (hn : n ≤ 1000000000) (hs : n ≠ 0 → a.isSome = true) (hw : ∀ x ∈ zs, (Lit.int .u8 x).wf = true)
    (tb tj : HB) (htb : labL 3 tb.cs) (htj : labL 3 tj.cs) {K : RO → List (Nat × HB) → Nat → List Row → SV → Prop}
    (hg : ∀ (rs2 : List Row) (bs : ByteArray), SB bs zs → K R [(2, tb), (1, tj), (0, ⟨44, [ad, .v (.slice a n c)]⟩)] 3 rs2 (.v (.string bs))) :
    CallP P 21 [.p 0 0] R [(2, tb), (1, tj), (0, ⟨44, [ad, .v (.slice a n c)]⟩)] 3 rs K := by
  subst hP
  obtain ⟨bs, hbs⟩ := bytes_of_ints hw
  have hsb : SB bs zs := hbs
  obtain ⟨zv, hzv⟩ : ∃ zv, zv = ints .u8 zs := ⟨_, rfl⟩
  rw [← hzv] at hb hbs
  refine callP_of_vc (fz := []) Try.func21 rfl (by decide) (Nat.le_of_ble_eq_true rfl) ok21 (by rcases had with rfl | rfl <;> simp [labL, lab]) ?_
  rintro P ⟨bin, cmp, cnv, neg, com, bnot, beq, ofN, toN, at_, sub_, scmp, cat, sget, ssz, ssub, elem, fld_⟩ hP hA
  conv => cbv
  have o := ofN_ hA n
  refine ⟨[0, 1, 2, 3, 5, 6, 7, 8, 9, 4, 10, 11], [10], mix hP, by kernel_rfl, ?_⟩
  conv => cbv
  by_cases hn0 : n = 0
  · have hz0 : zs = [] := List.eq_nil_of_length_eq_zero (by omega)
    refine gen_sd_any rfl rfl rfl (by rw [hP]; exact Try.underlying77) (fun ad had => by
      rcases hb with ⟨h1, _⟩ | rfl
      · rw [h1] at had; cases had
      · exact ⟨_, List.mem_cons_self .., had⟩) ?_
    intro p
    conv => cbv
    refine ⟨⟨⟨rfl, rfl, rfl, trivial⟩, .refl _⟩, ?_⟩
    conv => cbv
    refine gen_ustr0 rfl rfl rfl (by rw [o, hn0]; rfl) rfl ?_
    conv => cbv
    exact hg rs ⟨#[]⟩ (by rw [hz0]; rfl)
  obtain ⟨aa, rfl⟩ := Option.isSome_iff_exists.1 (hs hn0)
  rcases hb with ⟨h1, _⟩ | rfl
  · cases h1
  refine gen_sd_row rfl rfl rfl 0 _ rfl rfl rfl rfl hn0 ?_
  conv => cbv
  refine ⟨⟨⟨rfl, rfl, rfl, trivial⟩, .refl _⟩, ?_⟩
  conv => cbv
  refine gen_ustr rfl rfl rfl 0 _ rfl rfl rfl hn0 (by rw [o]) rfl (by rw [hP]; exact Try.underlying77) (by rw [hP]; kernel_rfl) (by show n ≤ _; omega) bs hbs.symm ?_
  conv => cbv
  exact hg [] bs hsb
end Go.Proofs.Ythhlbpahndfdhaa.Ds
