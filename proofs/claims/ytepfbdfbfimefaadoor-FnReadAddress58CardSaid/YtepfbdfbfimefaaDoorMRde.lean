/- Addresses of base 58: what is read is what the reference reads. -/
/- The package's table, out of the row's condition. -/
/- What the row's condition and the world's shape say: the package's table, its two errors, some 64 numbers. -/
import Derived.Test.YtepfbdfbfimefaaDoorMTyrd
import Derived.Test.YtepfbdfbfimefaaDoorRows
import Derived.Test.YtepfbdfbfimefaaDoorMTyek
import Derived.LaidLaws
import Derived.LaidMore
import Derived.LaidHandle
import Derived.MakeChecks
import Derived.FnData
import Derived.OpenShut
import Derived.Shelf.Vars
import Derived.Handed
import Derived.SizedLaws
section
set_option linter.unusedSimpArgs false
set_option linter.unusedVariables false
namespace Go.Proofs.YtepfbdfbfimefaaDoor.Rd
open Go Go.Se Go.Proofs Go.Proofs.YtepfbdfbfimefaaDoor.Co Go.Proofs.YtepfbdfbfimefaaDoor.Ht Go.Proofs.YtepfbdfbfimefaaDoor.Sha Go.Proofs.YtepfbdfbfimefaaDoor.Bf Go.Proofs.YtepfbdfbfimefaaDoor.Tyrd

theorem raw_iface_same {C : Cx} {s : St} {o : Oper} {K : SV → Prop} {T tp te t2 : Nat} {x y : Operand} {a : Addr} {ms : Array (String × TypeId)} (ho : o.op = .binOp .eql T x y t2) (hx : s.ev x = some (.ifc tp (.v (.pointer (some a))))) (hy : s.ev y = some (.v (.iface tp (.pointer (some a)))))
    (hi : C.P.underlying T = some (.interface ms)) (hp : C.P.underlying tp = some (.pointer te)) (hinfo : (C.P.info? tp).map (·.comparable) = some true) (hte : (C.P.info? te).map (·.size) = some 1) (hK : K (.v (.bool true))) : RawH C s o K := by
  refine ⟨.v (.bool true), trivial, hK, fun ρ w hrel ev hev => ?_⟩
  obtain ⟨j, hj, -⟩ := Option.map_eq_some_iff.1 hte
  obtain ⟨i, hi2, hc⟩ := Option.map_eq_some_iff.1 hinfo
  unfold execOp
  rw [ho]
  simp only [hev x _ hx, hev y _ hy, val]
  exact run_v (run_bin (run_guard_other (by simp) (by simp)) (fun w => run_eql_iface_ptr_same w a hi hp hi2 hc hj) w)

theorem raw_iface_other {C : Cx} {s : St} {o : Oper} {K : SV → Prop} {T tp te t2 : Nat} {x y : Operand} {a b : Addr} {ms : Array (String × TypeId)} (ho : o.op = .binOp .eql T x y t2) (hx : s.ev x = some (.ifc tp (.v (.pointer (some a))))) (hy : s.ev y = some (.v (.iface tp (.pointer (some b)))))
    (hi : C.P.underlying T = some (.interface ms)) (hp : C.P.underlying tp = some (.pointer te)) (hinfo : (C.P.info? tp).map (·.comparable) = some true) (hte : (C.P.info? te).map (·.size) = some 1) (hne : a ≠ b) (ha : ∃ c t, s.R a.block = some (.cells c t (0, 0))) (hb : ∃ c t, s.R b.block = some (.cells c t (0, 0)))
    (hK : K (.v (.bool false))) : RawH C s o K := by
  refine ⟨.v (.bool false), trivial, hK, fun ρ w hrel ev hev => ?_⟩
  obtain ⟨j, hj, hjs⟩ := Option.map_eq_some_iff.1 hte
  obtain ⟨i, hi2, hc⟩ := Option.map_eq_some_iff.1 hinfo
  obtain ⟨ca, ta, ha⟩ := ha
  obtain ⟨cb, tb, hb⟩ := hb
  unfold execOp
  rw [ho]
  simp only [hev x _ hx, hev y _ hy, val]
  have h1 := run_eql_iface_ptr_other (P := C.P) w hi hp hi2 hc hj (by rw [hjs]; decide) hne (hrel.ro _ _ ha) (hrel.ro _ _ hb)
  exact run_v (by simp only [bind]; rw [run_bind_pure (run_guard_other (by simp) (by simp) w)]; exact h1)

def DcR (K xs : List Int) (ac ai : Addr) (R R' : RO) (r : Value) : Prop := R.le R' ∧
      ((Bad xs ∧ r = .tuple #[.slice none 0 0, .int .u8 0, .iface 93 (.pointer (some ai))]) ∨
       (¬ Bad xs ∧ ¬ Right K xs ∧ r = .tuple #[.slice none 0 0, .int .u8 0, .iface 93 (.pointer (some ac))]) ∨
       (¬ Bad xs ∧ Right K xs ∧ ∃ a n c zs v, r = .tuple #[.slice a n c, .int .u8 v, .nilIface] ∧ RI R' .u8 a n zs ∧ n ≤ 1000 ∧ v = (dec xs).getD 0 0 ∧ zs = ((dec xs).take ((dec xs).length - 4)).drop 1))

set_option maxRecDepth 100000 in
set_option maxHeartbeats 4000000 in
theorem readI {P : Program} (hP : P = Tryd.prog) (R : RO) (hG : RI R .u8 (some ⟨1, 0, none⟩) 256 t58) (ac ai : Addr) (hE : Es R ac ai) (K : List Int) (hK : RI R .u32 (some ⟨3, 0, none⟩) 64 K) (b : ByteArray) (xs : List Int) (hb : SB b xs) (hxb : ∀ x ∈ xs, 0 ≤ x ∧ x ≤ 255) (hn : xs.length ≤ 400) :
    RetP P 11 [.string b] R fun R' r => ∃ a n c zs v k, r = .tuple #[.slice a n c, .int .u8 v, .int .i64 k] ∧ RI R' .u8 a n zs ∧ n ≤ 1000 ∧ Rd K xs zs v k := by
  subst hP
  refine retP_vc (fz := []) Tryd.func11 rfl (by decide) rfl ok11 ?_
  intro P bin cmp cnv neg com bnot beq ofN toN at_ sub_ scmp cat sget ssz ssub elem fld_ hP hA
  conv => cbv
  refine CallP.frame (vs := [.string b]) (rs := []) (fr := []) ((decodeC hP R hG ac ai hE K hK b xs hb hxb hn).callP (K := fun R' _ _ rs' r => rs' = [] ∧ ∃ v, r = .v v ∧ DcR K xs ac ai R R' v) rfl (fun R' v hle h => ⟨rfl, v, rfl, h⟩)) rfl (.refl _) ?_
  rintro R1 - - rs1 r hR1 ⟨rfl, v, rfl, -, ⟨hbad, rfl⟩ | ⟨hbad, hrt, rfl⟩ | ⟨hbad, hrt, a1, n1, c1, zs, v1, rfl, hr1, hn1, hv1, hz⟩⟩
  · refine ⟨.tu [.v (.slice none 0 0), .v (.int .u8 0), .ifc 93 (.v (.pointer (some ai)))], [], [], [], fun _ _ => rfl, ⟨trivial, trivial, trivial, trivial⟩, .refl _, .refl _, ?_⟩
    conv => cbv
    refine ld_k (.inl (rcell_le hR1 hE.ck)) ?_
    conv => cbv
    refine raw_iface_other rfl rfl rfl (by rw [hP]; exact Tryd.underlying43) (by rw [hP]; exact Tryd.underlying93) (by rw [hP]; kernel_rfl) (by rw [hP]; kernel_rfl) hE.ne (hE.le hR1).bi (hE.le hR1).bc ?_
    conv => cbv
    intro ρ R'' _ _ _
    exact ⟨none, 0, 0, [], 0, 2, rfl, RI.nil, by omega, ⟨fun _ => rfl, fun h => absurd hbad h, fun h => absurd hbad h⟩⟩
  · refine ⟨.tu [.v (.slice none 0 0), .v (.int .u8 0), .ifc 93 (.v (.pointer (some ac)))], [], [], [], fun _ _ => rfl, ⟨trivial, trivial, trivial, trivial⟩, .refl _, .refl _, ?_⟩
    conv => cbv
    refine ld_k (.inl (rcell_le hR1 hE.ck)) ?_
    conv => cbv
    refine raw_iface_same rfl rfl rfl (by rw [hP]; exact Tryd.underlying43) (by rw [hP]; exact Tryd.underlying93) (by rw [hP]; kernel_rfl) (by rw [hP]; kernel_rfl) ?_
    conv => cbv
    intro ρ R'' _ _ _
    exact ⟨none, 0, 0, [], 0, 1, rfl, RI.nil, by omega, ⟨fun h => absurd h hbad, fun _ _ => rfl, fun _ h => absurd h hrt⟩⟩
  · refine ⟨.v _, [], [], [], fun _ _ => rfl, trivial, .refl _, .refl _, ?_⟩
    conv => cbv
    refine (copiedL hP R1 a1 n1 c1 zs hr1 (by omega)).callP rfl ?_
    rintro R2 _ hR2 ⟨a2, n2, c2, rfl, hn2, hr2, hc2⟩
    conv => cbv
    intro ρ R'' hle _ _
    exact ⟨a2, n2, c2, zs, v1, 0, rfl, hr2.le hle, by omega, ⟨fun h => absurd h hbad, fun _ h => absurd hrt h, fun _ _ => ⟨rfl, hv1, hz⟩⟩⟩

set_option maxRecDepth 100000 in
set_option maxHeartbeats 2000000 in
theorem law {P : Program} (hP : P = Tryd.prog) (R : RO) (hG : RI R .u8 (some ⟨1, 0, none⟩) 256 t58) (ac ai : Addr) (hE : Es R ac ai) (K : List Int) (hK : RI R .u32 (some ⟨3, 0, none⟩) 64 K) (b : ByteArray) (xs : List Int) (hb : SB b xs) (hxb : ∀ x ∈ xs, 0 ≤ x ∧ x ≤ 255) :
    RetP P 4 [.string b] R fun _ v => v = .bool true := by
  subst hP
  have hsz := hb.size
  refine retP_vc (fz := []) Tryd.func4 rfl (by decide) rfl ok4 ?_
  intro P bin cmp cnv neg com bnot beq ofN toN at_ sub_ scmp cat sget ssz ssub elem fld_ hP hA
  conv => cbv
  have ob : ofN (ssz b) = (xs.length : Int) := by rw [ofN_ hA, ssz_ hA, hsz]
  by_cases h1 : 2147483647 < xs.length
  · refine br_t (by rw [ob, cmp_gtr hA]; simp; omega) ?_
    conv => cbv
    intro ρ R'' _ _ _
    rfl
  refine br_f (by rw [ob, cmp_gtr hA]; simp; omega) ?_
  conv => cbv
  by_cases h2 : 400 < xs.length
  · refine br_t (by rw [ob, cmp_gtr hA]; simp; omega) ?_
    conv => cbv
    intro ρ R'' _ _ _
    rfl
  refine br_f (by rw [ob, cmp_gtr hA]; simp; omega) ?_
  conv => cbv
  refine (readS hP R K hK b xs hb hxb (by omega)).callP rfl ?_
  rintro R1 _ hR1 ⟨a1, n1, c1, zs1, v1, k1, rfl, hr1, hn1, hd1⟩
  conv => cbv
  refine (readI hP R1 (hG.le hR1) ac ai (hE.le hR1) K (hK.le hR1) b xs hb hxb (by omega)).callP rfl ?_
  rintro R2 _ hR2 ⟨a2, n2, c2, zs2, v2, k2, rfl, hr2, hn2, hd2⟩
  conv => cbv
  by_cases hbad : Bad xs
  · have hk1 := hd1.short hbad
    have hk2 := hd2.short hbad
    subst hk1 hk2
    have e1 : cmp .eql 2 2 = true := by rw [cmp_eql hA]; rfl
    have e2 : cmp .neq 2 0 = true := by rw [cmp_neq hA]; rfl
    simp (maxSteps := 10000000) only [e1, e2]
    conv => cbv
    simp (maxSteps := 10000000) only [e1, e2]
    conv => cbv
    intro ρ R'' _ _ _
    rfl
  by_cases hrt : Right K xs
  · obtain ⟨hk1, hv1, hz1⟩ := hd1.right hbad hrt
    obtain ⟨hk2, hv2, hz2⟩ := hd2.right hbad hrt
    rw [← hz1] at hz2
    rw [← hv1] at hv2
    subst hk1 hk2 hz2 hv2
    have e1 : cmp .eql 0 0 = true := by rw [cmp_eql hA]; rfl
    have e2 : cmp .neq 0 0 = false := by rw [cmp_neq hA]; rfl
    have e3 : cmp .eql v2 v2 = true := by rw [cmp_eql hA]; simp
    simp (maxSteps := 10000000) only [e1]
    conv => cbv
    simp (maxSteps := 10000000) only [e2]
    conv => cbv
    simp (maxSteps := 10000000) only [e3]
    conv => cbv
    refine (sameL hP R2 a2 a1 n2 n1 c2 c1 zs2 zs2 hr2 (hr1.le hR2) (by omega) (by omega)).callQ rfl ?_
    rintro _ ⟨r, rfl, hr⟩
    obtain rfl := hr.2 rfl
    conv => cbv
    intro ρ R'' _ _ _
    rfl
  · have hk1 := hd1.wrong hbad hrt
    have hk2 := hd2.wrong hbad hrt
    subst hk1 hk2
    have e1 : cmp .eql 1 1 = true := by rw [cmp_eql hA]; rfl
    have e2 : cmp .neq 1 0 = true := by rw [cmp_neq hA]; rfl
    simp (maxSteps := 10000000) only [e1, e2]
    conv => cbv
    simp (maxSteps := 10000000) only [e1, e2]
    conv => cbv
    intro ρ R'' _ _ _
    rfl
end Go.Proofs.YtepfbdfbfimefaaDoor.Rd
end
section
set_option linter.unusedVariables false
namespace Go.Proofs.YtepfbdfbfimefaaDoor.Bf
open Go Go.Se Go.Proofs Go.ChangeShapes Go.WideShapes Go.RowKit

theorem bG : Tryd.prog.globalNamed "pub-mintmark/pub/btcdaddress/base58.b58" = some 1 := by kernel_rfl
theorem bT : (Tryd.prog.globals[1]?).map (·.type) = some 59 := by kernel_rfl
theorem bC : Tryd.prog.cellsOf 5 = 1 := by kernel_rfl
theorem t58_wf : (t58.all fun x => (Lit.int .u8 x).wf) = true := by decide +kernel
theorem t58_laid : (Rows.laid_pub_mintmark_pub_btcdaddress_base58_b58 : DataW Unit) = .agg (t58.map fun k => .lit (.int .u8 k)) := by kernel_rfl
theorem t58_len : t58.length = 256 := by kernel_rfl

set_option maxRecDepth 100000 in
/-- One listed variable. -/
theorem b58_at {W : World} {cs0 : Array Value} {f0 : Nat} {q0 : List MemPlace} {enc : TypeId × Value → Unit} {sp : Nat → Bool} {held : Bool} {base : Nat} (hv0 : W.var? Tryd.prog "pub-mintmark/pub/btcdaddress/base58.b58" = some cs0)
    (hd0 : DataW.trod enc Tryd.prog W base sp held f0 59 cs0.toList = some (Rows.laid_pub_mintmark_pub_btcdaddress_base58_b58, q0)) : RI (fun b => W.heap[b]?) .u8 (some ⟨1, 0, none⟩) 256 t58 := by
  obtain ⟨ys, m, _, hx, hlen, hyl, hel⟩ := DataW.trod_array Tryd.underlying59 hd0
  have hx1 := congrArg Prod.fst hx
  have hx1 : (Rows.laid_pub_mintmark_pub_btcdaddress_base58_b58 : DataW Unit) = .agg (ys.map (·.1)) := hx1
  rw [t58_laid] at hx1
  have hys : t58.map (fun k => (DataW.lit (.int .u8 k) : DataW Unit)) = ys.map (·.1) := by injection hx1
  refine ⟨t58_len.symm, fun i h0 h1 => ⟨rfl, ?_⟩, fun x hx => List.all_eq_true.1 t58_wf x hx⟩
  obtain ⟨k, rfl⟩ : ∃ k : Nat, i = k := ⟨i.toNat, by omega⟩
  have hk : k < 256 := by omega
  have h5 := hel k hk
  rw [bC, Nat.mul_one] at h5
  obtain ⟨y, hy⟩ : ∃ y, ys[k]? = some y := ⟨_, List.getElem?_eq_getElem (by omega)⟩
  rw [hy] at h5
  obtain ⟨x, hc, hyx, _⟩ := DataW.trod_int Tryd.underlying5 h5
  have h6 : (ys.map (·.1))[k]? = some (.lit (.int .u8 x)) := by rw [List.getElem?_map, hy, hyx]; rfl
  rw [← hys, List.getElem?_map, Option.map_eq_some_iff] at h6
  obtain ⟨z, hz, hzx⟩ := h6
  have hzx : z = x := by
    injection hzx with hzx
    injection hzx
  have h7 : cs0[k]? = some (.int .u8 x) := by
    have h8 : ((cs0.toList.drop k).take 1)[0]? = some (.int .u8 x) := by rw [hc]; rfl
    rw [List.getElem?_take, if_pos (by decide), List.getElem?_drop] at h8
    simpa using h8
  have h9 : W.cell? ⟨1, k, none⟩ = some (.int .u8 x) := by rw [World.var?_cell bG hv0 k, h7]
  have e1 : Ar.real.elem (some ⟨1, 0, none⟩) (k : Int) 1 = ⟨1, k, none⟩ := by
    show (⟨1, 0, none⟩ : Addr).add ((k : Int).toNat * 1) = _
    rw [Int.toNat_natCast, Nat.mul_one]
    unfold Addr.add
    split
    · rename_i h; rw [h]
    · simp
  rw [e1, Int.toNat_natCast, List.getD_eq_getElem?_getD, hz, hzx]
  exact rcell_heap h9

theorem b58_of {W : World} {laid : List (String × DataW Unit)} (hlaid : laid = [("pub-mintmark/pub/btcdaddress/base58.b58", Rows.laid_pub_mintmark_pub_btcdaddress_base58_b58)]) (h : laidMetH Tryd.prog laid W) : RI (fun b => W.heap[b]?) .u8 (some ⟨1, 0, none⟩) 256 t58 := by
  subst hlaid
  rw [MakeChecks.laidMetH_plain _ _ _ (by kernel_rfl)] at h
  obtain ⟨ps, ⟨g0, t0, cs0, f0, p0, q0, hg0, ht0, hv0, hd0, hq, e0⟩, hnd, hrows⟩ := h
  obtain rfl := Option.some.inj (bG.symm.trans hg0)
  obtain rfl := Option.some.inj (bT.symm.trans ht0)
  exact b58_at hv0 hd0
end Go.Proofs.YtepfbdfbfimefaaDoor.Bf
end
section
set_option linter.unusedVariables false
universe u
namespace Go.Proofs.YtepfbdfbfimefaaDoor.Rd
open Go Go.Se Go.Proofs Go.ChangeShapes Go.WideShapes Go.RowKit Go.Proofs.YtepfbdfbfimefaaDoor.Bf

theorem g0 : Tryd.prog.globalNamed "pub-mintmark/pub/btcdaddress/base58.ErrChecksum" = some 0 := by kernel_rfl
theorem g2 : Tryd.prog.globalNamed "pub-mintmark/pub/btcdaddress/base58.ErrInvalidFormat" = some 2 := by kernel_rfl
theorem t0 : (Tryd.prog.globals[0]?).map (·.type) = some 43 := by kernel_rfl
theorem t2 : (Tryd.prog.globals[2]?).map (·.type) = some 43 := by kernel_rfl
theorem cellsE : Tryd.prog.cellsOf 120 = 1 := by kernel_rfl
theorem cellsS : Tryd.prog.cellsOf 9 = 1 := by kernel_rfl
theorem star : "*" ++ "errors.errorString" = "*errors.errorString" := by decide
theorem rowE (u : TypeId) (h : Tryd.prog.typeName? 3 u = some "*errors.errorString") : u = 93 :=
  typeName_ptr_named (nm := "errors.errorString") (by rw [star]; kernel_rfl) (by kernel_rfl) (by decide) u (by rw [star]; exact h)

theorem gK : (3 : Nat) < Tryd.prog.globals.size := Nat.le_of_ble_eq_true (by kernel_rfl)
theorem rowK : ((begin Tryd.prog (fun _ _ => 0) default).world.heap[3]?).bind Obj.row? = some (⟨List.replicate 64 (.int .u32 0)⟩, 117) := by kernel_rfl
theorem bldK : Tryd.prog.buildable 117 = true := by kernel_rfl
theorem cellsK : Tryd.prog.cellTypes Tryd.prog.depth 117 = some (List.replicate 64 68) := by kernel_rfl

theorem cell_int {P : Program} {W : World} {r : Reach} {t : TypeId} {k : IntKind} {v : Value} (hu : P.underlying t = some (.int k)) (h : Cell.ok P W r 0 t v) : ∃ n, v = .int k n ∧ k.has n := by
  unfold Cell.ok at h
  rw [hu] at h
  cases v <;> simp at h
  case int k' n => exact ⟨n, by rw [h.1], h.2⟩

set_option maxRecDepth 100000 in
/-- A table of the library holds some 64 numbers. -/
theorem k_of {W : World} (h : W.ShapedOpen Tryd.prog) : ∃ K, RI (fun b => W.heap[b]?) .u32 (some ⟨3, 0, none⟩) 64 K := by
  obtain ⟨cs, hh, hs, hr⟩ := h.1 3 _ _ gK rowK
  obtain ⟨ts, hts, _, hall⟩ := hr bldK
  rw [cellsK] at hts
  cases hts
  have hs : cs.size = 64 := by rw [hs]; rfl
  have hc : ∀ i, i < 64 → ∃ n : Int, cs[i]? = some (.int .u32 n) ∧ IntKind.u32.has n := fun i hi => by
    obtain ⟨v, hv⟩ : ∃ v, cs[i]? = some v := ⟨_, Array.getElem?_eq_getElem (by omega)⟩
    obtain ⟨u, hu, hok⟩ := hall i v hv
    rw [List.length_replicate, List.getElem?_replicate, if_pos (by omega)] at hu
    cases hu
    obtain ⟨n, rfl, hn⟩ := cell_int Tryd.underlying68 hok
    exact ⟨n, hv, hn⟩
  obtain ⟨K, hKl, hK⟩ := choose_list (q := fun i n => cs[i]? = some (.int .u32 n) ∧ IntKind.u32.has n) 64 hc
  refine ⟨K, hKl.symm, fun i h0 h1 => ⟨rfl, ?_⟩, fun x hx => ?_⟩
  · obtain ⟨j, rfl⟩ : ∃ j : Nat, i = j := ⟨i.toNat, by omega⟩
    have hj : j < K.length := by omega
    have h3 := (hK j K[j] (List.getElem?_eq_getElem hj)).1
    rw [Sha.elem_at rfl _ _ j rfl, Int.toNat_natCast, List.getD_eq_getElem?_getD, List.getElem?_eq_getElem hj]
    have h4 : W.cell? ((⟨3, 0, none⟩ : Addr).add j) = some (.int .u32 K[j]) := by
      unfold Addr.add
      split
      · rename_i h; subst h; simp [World.cell?, hh, h3]
      · simp [World.cell?, hh, h3]
    exact rcell_heap h4
  · obtain ⟨i, hi, hix⟩ := List.mem_iff_getElem.1 hx
    have := (hK i x (by rw [List.getElem?_eq_getElem hi, hix])).2
    show (decide _ && decide _) = true
    rw [Bool.and_eq_true, decide_eq_true_iff, decide_eq_true_iff]
    exact this

theorem mem_app {α : Type} {x : α} {a b c : List α} (h : x ∈ c) : x ∈ a ++ b ++ c := List.mem_append_right _ h

set_option maxRecDepth 100000 in
theorem all_of {W : World} {laid : List (String × DataW Unit)} (hlaid : laid = [("pub-mintmark/pub/btcdaddress/base58.b58", Rows.laid_pub_mintmark_pub_btcdaddress_base58_b58), ("pub-mintmark/pub/btcdaddress/base58.ErrChecksum", Rows.laid_pub_mintmark_pub_btcdaddress_base58_ErrChecksum), ("pub-mintmark/pub/btcdaddress/base58.ErrInvalidFormat", Rows.laid_pub_mintmark_pub_btcdaddress_base58_ErrInvalidFormat)])
    (h : laidMetH Tryd.prog laid W) : RI (fun b => W.heap[b]?) .u8 (some ⟨1, 0, none⟩) 256 t58 ∧ ∃ ac ai, Es (fun b => W.heap[b]?) ac ai := by
  subst hlaid
  rw [MakeChecks.laidMetH_plain _ _ _ (by kernel_rfl)] at h
  obtain ⟨ps, ⟨gb, tb, csb, fb, pb, qb, hgb, htb, hvb, hdb, ⟨g1, t1, cs1, f1, p1, q1, hg1, ht1, hv1, hd1, ⟨g2', t2', cs2, f2, p2, q2, hg2, ht2, hv2, hd2, hq2, e2⟩, e1⟩, eb⟩, hnd, hrows⟩ := h
  obtain rfl := Option.some.inj (bG.symm.trans hgb)
  obtain rfl := Option.some.inj (bT.symm.trans htb)
  obtain rfl := Option.some.inj (g0.symm.trans hg1)
  obtain rfl := Option.some.inj (g2.symm.trans hg2)
  obtain rfl := Option.some.inj (t0.symm.trans ht1)
  obtain rfl := Option.some.inj (t2.symm.trans ht2)
  have hq2' : q2 = [] := hq2
  subst hq2'
  subst e2
  subst e1
  obtain ⟨l1⟩ := cs1
  obtain ⟨l2⟩ := cs2
  have ok1 : ∀ u v, l1 = [.iface u v] → Value.okWide Tryd.prog W .any 0 u v := fun u v e => by
    subst e
    exact (hrows 0 0 (by rw [eb]; simp [MemPlace.row])).2 u v (by simpa using World.var?_cell hg1 hv1 0)
  have ok2 : ∀ u v, l2 = [.iface u v] → Value.okWide Tryd.prog W .any 0 u v := fun u v e => by
    subst e
    exact (hrows 2 0 (by rw [eb]; simp [MemPlace.row])).2 u v (by simpa using World.var?_cell hg2 hv2 0)
  obtain ⟨a1, s1, rfl, _, _, _, r1⟩ := errorString_of_trod Tryd.underlying43 rowE Tryd.underlying93 Tryd.underlying120 rfl rfl Tryd.underlying9 cellsE cellsS hd1 ok1
  obtain ⟨a2, s2, rfl, _, _, _, r2⟩ := errorString_of_trod Tryd.underlying43 rowE Tryd.underlying93 Tryd.underlying120 rfl rfl Tryd.underlying9 cellsE cellsS hd2 ok2
  refine ⟨b58_at hvb hdb, a1, a2, rcell_heap (by simpa using World.var?_cell hg1 hv1 0), rcell_heap (by simpa using World.var?_cell hg2 hv2 0), fun he => ?_, ?_, ?_⟩
  · subst he
    rw [eb, r1, r2] at hnd
    have h3 := (List.nodup_append.1 (List.nodup_append.1 hnd).2.1).2.2 (.cell a2.block (a2.off + 0)) (by simp [MemPlace.row]) (.cell a2.block (a2.off + 0)) (by simp [MemPlace.row])
    exact h3 rfl
  · exact (hrows a1.block a1.off (by rw [eb, r1]; simp [MemPlace.row])).1
  · exact (hrows a2.block a2.off (by rw [eb, r2]; simp [MemPlace.row])).1

/-- The law over a string's bytes. -/
theorem lawB (hP : Tryd.prog = Tryd.prog) (R : RO) (hG : RI R .u8 (some ⟨1, 0, none⟩) 256 t58) (ac ai : Addr) (hE : Es R ac ai) (K : List Int) (hK : RI R .u32 (some ⟨3, 0, none⟩) 64 K) (b : ByteArray) {α : Sort u} (_ : α) :
    RetP Tryd.prog 4 [.string b] R fun _ v => v = .bool true := by
  refine law hP R hG ac ai hE K hK b (b.data.toList.map fun x => (x.toNat : Int)) ?_ ?_
  · show byteCells b = _
    unfold byteCells ints
    rw [List.map_map]
    rfl
  · intro x hx
    obtain ⟨y, -, rfl⟩ := List.mem_map.1 hx
    have := y.toNat_lt
    omega

variable {H : Type} {enc : TypeId × Value → H}

/-- The row's form, with the variables' condition and the world's shape. -/
theorem wrap {a : Assume} {C : Checked} {os : Os} {f : FuncId} {fn : Func} {s : ChangeSpec} {conds : List PathCond} {apart fresh handsOn again : Bool} {X : World → Array Value → Prop}
    (hX : ∀ (w w' : World) (args : Array Value), w.heap = w'.heap → X w args → X w' args) (own : ownKnob C.prog.godebug = none) (started : os.Started) (noInit : C.prog.inits.idxOf? f = none) (hfn : C.prog.funcs[f]? = some fn)
    (witness : ∃ (w : World) (tape : Tape) (i : Input), w.os = os ∧ (w.forCall tape i).Shaped C.prog ∧ i.vars = [] ∧ Input.okWide C.prog (w.forCall tape i) .any w.heap.size f i ∧
      ((s.pre enc C.prog fn conds apart (w.forCall tape i).memory i.args ∧ X (w.forCall tape i).memory i.args) ∧ sizedMet enc C.prog fn (OpenSpec.ofChange s) apart (w.forCall tape i).memory i.args) ∧ a.holds C.prog (lone (Frame.enter C.prog f i.args .normal) [] (w.forCall tape i)))
    (contract : ∀ (W : World) (base : Nat) (args : Array Value) (ds gs : List (DataW H)) (before : List MemPlace), W.ShapedOpen C.prog →
      (∀ (j : Nat) t v, fn.params[j]? = some t → args[j]? = some v → Value.okWide C.prog W .any base t v) → DataW.Whole enc C.prog fn.params.toList s.vars apart W args.toList ds gs before →
      conds.all (PathCond.test C.prog ⟨fn.params.toList, ds, s.plain.varTypes C.prog, gs⟩) = true → (DataW.weightsEach C.prog (fn.params.toList ++ s.plain.varTypes C.prog) (ds ++ gs)).all (· ≤ reachBytes) = true → X W args →
      a.holds C.prog (lone (Frame.enter C.prog f args .normal) [] W) → Calls C.prog f args W fun e W' => ∃ v, e = .returned v ∧ s.post enc C.prog fn apart fresh handsOn again W args v W') :
    ReturnsInHanded a C os f .any (fun w args => (s.pre enc C.prog fn conds apart w args ∧ X w args) ∧ sizedMet enc C.prog fn (OpenSpec.ofChange s) apart w args) (s.post enc C.prog fn apart fresh handsOn again) := by
  refine returnsInHanded_of_calls own started noInit witness fun w tape i _ hsh _ hok hpre hholds => ?_
  obtain ⟨_, _, _, fn2, hfn2, _, _, _, _, hval⟩ := hok
  obtain rfl : fn2 = fn := Option.some.inj (hfn2.symm.trans hfn)
  obtain ⟨⟨⟨ds, gs, before, hw, hc⟩, hx⟩, hz⟩ := hpre
  refine (contract _ w.heap.size i.args ds gs before hsh hval (DataW.Whole.of_heap (w' := w.forCall tape i) (by rfl) hw) hc (hz.weights hw) (hX _ _ _ (by rfl) hx) hholds).mono fun e W' ⟨v, he, hp⟩ => ?_
  subst he
  exact ChangeSpec.post_blind hp
end Go.Proofs.YtepfbdfbfimefaaDoor.Rd
end
