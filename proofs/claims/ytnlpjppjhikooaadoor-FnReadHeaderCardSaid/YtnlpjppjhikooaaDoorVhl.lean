/- A header of eighty bytes: the law. -/
import Derived.Test.YtnlpjppjhikooaaDoorVhd
import Derived.Test.YtnlpjppjhikooaaDoorTyvk
set_option linter.unusedSimpArgs false
set_option linter.unusedVariables false
namespace Go.Proofs.YtnlpjppjhikooaaDoor.Vh
open Go Go.Se Go.Proofs Go.ChangeShapes Go.Proofs.YtnlpjppjhikooaaDoor.Tyvk
open Go.Proofs.YtnlpjppjhikooaaDoor.Vs (lv lv_lt hd hdx hz)

theorem eqHdr (V : Int) (A B : List Int) (t b n : Int) (hA : A.length = 32) (hB : B.length = 32) (w : World) : (Op.equalIn 10000 45 (.agg (hd V A B t b n).toArray) (.agg (hd V A B t b n).toArray)).run Tryd.prog w = .ok true w := by
  rw [run_equalIn_struct w 9999 _ _ _ (by kernel_rfl) (by kernel_rfl)]
  refine eqFields_same 9999 _ _ (fun f hf => ?_) w
  have hm : (f.type, f.offset) ∈ [(21, 0), (43, 1), (43, 33), (23, 65), (23, 66), (23, 67)] := by
    have h : ((Tryd.prog.fieldsOf 45).toList.map fun f => (f.type, f.offset)) = [(21, 0), (43, 1), (43, 33), (23, 65), (23, 66), (23, 67)] := by kernel_rfl
    rw [← h]
    exact List.mem_map_of_mem (f := fun f : Field => (f.type, f.offset)) hf
  have la : (ints .u8 A).length = 32 := by rw [ints_len, hA]
  have lb : (ints .u8 B).length = 32 := by rw [ints_len, hB]
  have h65 : (hd V A B t b n)[65]? = some (.int .u32 t) := by
    show (ints .u8 A ++ (ints .u8 B ++ [Value.int .u32 t, Value.int .u32 b, Value.int .u32 n]))[64]? = _
    rw [List.getElem?_append_right (by omega), List.getElem?_append_right (by omega), la, lb]
    rfl
  have h66 : (hd V A B t b n)[66]? = some (.int .u32 b) := by
    show (ints .u8 A ++ (ints .u8 B ++ [Value.int .u32 t, Value.int .u32 b, Value.int .u32 n]))[65]? = _
    rw [List.getElem?_append_right (by omega), List.getElem?_append_right (by omega), la, lb]
    rfl
  have h67 : (hd V A B t b n)[67]? = some (.int .u32 n) := by
    show (ints .u8 A ++ (ints .u8 B ++ [Value.int .u32 t, Value.int .u32 b, Value.int .u32 n]))[66]? = _
    rw [List.getElem?_append_right (by omega), List.getElem?_append_right (by omega), la, lb]
    rfl
  have hc : Tryd.prog.cellsOf 43 = 32 := by kernel_rfl
  have p1 : ((hd V A B t b n).drop 1).take (Tryd.prog.cellsOf 43) = ints .u8 A := by
    rw [hc]
    show (ints .u8 A ++ (ints .u8 B ++ [Value.int .u32 t, Value.int .u32 b, Value.int .u32 n])).take 32 = _
    rw [← la, List.take_left]
  have p2 : ((hd V A B t b n).drop 33).take (Tryd.prog.cellsOf 43) = ints .u8 B := by
    rw [hc]
    show ((ints .u8 A ++ (ints .u8 B ++ [Value.int .u32 t, Value.int .u32 b, Value.int .u32 n])).drop 32).take 32 = _
    rw [← la, List.drop_left, la, ← lb, List.take_left]
  obtain ⟨i43, hi43⟩ : ∃ i, Tryd.prog.info? 43 = some i := Option.isSome_iff_exists.1 (by kernel_rfl)
  obtain ⟨i5, hi5⟩ : ∃ i, Tryd.prog.info? 5 = some i := Option.isSome_iff_exists.1 (by kernel_rfl)
  have hc5 : Tryd.prog.cellsOf 5 = 1 := by kernel_rfl
  have arr : ∀ L : List Int, L.length = 32 → ∀ w, (Op.equalIn 9999 43 (.agg (ints .u8 L).toArray) (.agg (ints .u8 L).toArray)).run Tryd.prog w = .ok true w := fun L hL w => by
    have h := run_equalIn_ints (P := Tryd.prog) w 9997 43 5 32 .u8 Tryd.underlying43 Tryd.underlying5 (fun w => by rw [run_sizeOf w hi5, hc5]) L L hL hL
    rw [h]
    simp
  simp only [List.mem_cons, Prod.mk.injEq, List.not_mem_nil, or_false] at hm
  rcases hm with ⟨h1, h2⟩ | ⟨h1, h2⟩ | ⟨h1, h2⟩ | ⟨h1, h2⟩ | ⟨h1, h2⟩ | ⟨h1, h2⟩
  · rw [h1, h2]
    exact ⟨_, part_int (n := V) Tryd.underlying21 rfl, fun w => by rw [run_equalIn_int w 9998 _ _ _ _ _ Tryd.underlying21]; simp⟩
  · rw [h1, h2]
    exact ⟨_, part_arr Tryd.underlying43 hi43 p1, arr A hA⟩
  · rw [h1, h2]
    exact ⟨_, part_arr Tryd.underlying43 hi43 p2, arr B hB⟩
  · rw [h1, h2]
    exact ⟨_, part_int Tryd.underlying23 h65, fun w => by rw [run_equalIn_int w 9998 _ _ _ _ _ Tryd.underlying23]; simp⟩
  · rw [h1, h2]
    exact ⟨_, part_int Tryd.underlying23 h66, fun w => by rw [run_equalIn_int w 9998 _ _ _ _ _ Tryd.underlying23]; simp⟩
  · rw [h1, h2]
    exact ⟨_, part_int Tryd.underlying23 h67, fun w => by rw [run_equalIn_int w 9998 _ _ _ _ _ Tryd.underlying23]; simp⟩


set_option maxRecDepth 100000 in
set_option maxHeartbeats 4000000 in
theorem law {P : Program} (hP : P = Tryd.prog) (R : RO) (ae au : Addr) (hE : Vd.Ers R ae au) (b : Option Addr) (m c2 : Nat) (ys : List Int) (h2 : RI R .u8 b m ys) (hm : m ≤ 9223372036854775807) (hc : m ≤ c2) :
    RetP P 7 [.slice b m c2] R fun _ v => v = .bool true := by
  subst hP
  have hl := h2.len
  refine retP_vc (fz := []) Tryd.func7 rfl (by decide) rfl ok7 ?_
  intro P bin cmp cnv neg com bnot beq ofN toN at_ sub_ scmp cat sget ssz ssub elem fld_ hP hA
  conv => cbv
  have om := ofN_ hA m
  by_cases g1 : m ≤ 2147483647
  case neg =>
    refine br_t (by rw [om, cmp_gtr hA]; simp; omega) ?_
    conv => cbv
    intro ρ R'' _ _ _
    rfl
  refine br_f (by rw [om, cmp_gtr hA]; simp; omega) ?_
  conv => cbv
  by_cases g2 : m ≤ 100000
  case neg =>
    refine br_t (by rw [om, cmp_gtr hA]; simp; omega) ?_
    conv => cbv
    intro ρ R'' _ _ _
    rfl
  refine br_f (by rw [om, cmp_gtr hA]; simp; omega) ?_
  conv => cbv
  have nt : bnot true = false := by rw [bnot_ hA]; rfl
  have nf : bnot false = true := by rw [bnot_ hA]; rfl
  by_cases h80 : 80 ≤ m
  case neg =>
    refine (Vs.headerS hP R b m c2 ys h2 g2 hc _ rfl).callP rfl ?_
    rintro R1 r1 hR1 hS
    have hE1 : Vd.Ers R1 ae au := ⟨rcell_le hR1 hE.eof, rcell_le hR1 hE.uex⟩
    obtain rfl := (hS.resolve_right fun h => h80 h.1).2
    conv => cbv
    refine (headerI hP R1 ae au hE1 b m c2 ys (h2.le hR1) g2 hc _ rfl).callP rfl ?_
    rintro R2 r2 hR2 hI
    obtain rfl := (hI.resolve_right fun h => h80 h.1).2
    conv => cbv
    have hq1 : beq (cmp .eql 1 0) false = true := by rw [cmp_eql hA, beq_ hA]; rfl
    simp (maxSteps := 10000000) only [hq1]
    conv => cbv
    simp (maxSteps := 10000000) only [nf]
    conv => cbv
    intro ρ R'' _ _ _
    rfl
  obtain ⟨p0, p1, p2, p3, p4, p5, p6, p7, p8, p9, p10, p11, p12, p13, p14, p15, p16, p17, p18, p19, p20, p21, p22, p23, p24, p25, p26, p27, p28, p29, p30, p31, hP4⟩ := l32 (l := (ys.drop 4).take 32) (by simp; omega)
  obtain ⟨q0, q1, q2, q3, q4, q5, q6, q7, q8, q9, q10, q11, q12, q13, q14, q15, q16, q17, q18, q19, q20, q21, q22, q23, q24, q25, q26, q27, q28, q29, q30, q31, hP36⟩ := l32 (l := (ys.drop 36).take 32) (by simp; omega)
  obtain ⟨V, hV⟩ : ∃ V, V = IntKind.i32.wrap (lv ((ys.drop 0).take 4)) := ⟨_, rfl⟩
  obtain ⟨T, hT⟩ : ∃ V, V = lv ((ys.drop 68).take 4) := ⟨_, rfl⟩
  obtain ⟨B, hB⟩ : ∃ V, V = lv ((ys.drop 72).take 4) := ⟨_, rfl⟩
  obtain ⟨U, hU⟩ : ∃ V, V = lv ((ys.drop 76).take 4) := ⟨_, rfl⟩
  have hx : hd V [p0, p1, p2, p3, p4, p5, p6, p7, p8, p9, p10, p11, p12, p13, p14, p15, p16, p17, p18, p19, p20, p21, p22, p23, p24, p25, p26, p27, p28, p29, p30, p31] [q0, q1, q2, q3, q4, q5, q6, q7, q8, q9, q10, q11, q12, q13, q14, q15, q16, q17, q18, q19, q20, q21, q22, q23, q24, q25, q26, q27, q28, q29, q30, q31] T B U = hdx ys := by rw [hdx, ← hV, ← hT, ← hB, ← hU, hP4, hP36]
  refine (Vs.headerS hP R b m c2 ys h2 g2 hc _ hx).callP rfl ?_
  rintro R1 r1 hR1 hS
  have hE1 : Vd.Ers R1 ae au := ⟨rcell_le hR1 hE.eof, rcell_le hR1 hE.uex⟩
  obtain rfl := (hS.resolve_left fun h => absurd h.1 (by omega)).2
  conv => cbv
  refine (headerI hP R1 ae au hE1 b m c2 ys (h2.le hR1) g2 hc _ hx).callP rfl ?_
  rintro R2 r2 hR2 hI
  obtain rfl := (hI.resolve_left fun h => absurd h.1 (by omega)).2
  conv => cbv
  have hq1 : beq (cmp .eql 0 0) true = true := by rw [cmp_eql hA, beq_ hA]; rfl
  simp (maxSteps := 10000000) only [hq1]
  conv => cbv
  simp (maxSteps := 10000000) only [nt]
  conv => cbv
  refine raw_same rfl (by rw [hP]; kernel_rfl) (hd V [p0, p1, p2, p3, p4, p5, p6, p7, p8, p9, p10, p11, p12, p13, p14, p15, p16, p17, p18, p19, p20, p21, p22, p23, p24, p25, p26, p27, p28, p29, p30, p31] [q0, q1, q2, q3, q4, q5, q6, q7, q8, q9, q10, q11, q12, q13, q14, q15, q16, q17, q18, q19, q20, q21, q22, q23, q24, q25, q26, q27, q28, q29, q30, q31] T B U).toArray rfl rfl (fun w => by rw [hP]; exact eqHdr V [p0, p1, p2, p3, p4, p5, p6, p7, p8, p9, p10, p11, p12, p13, p14, p15, p16, p17, p18, p19, p20, p21, p22, p23, p24, p25, p26, p27, p28, p29, p30, p31] [q0, q1, q2, q3, q4, q5, q6, q7, q8, q9, q10, q11, q12, q13, q14, q15, q16, q17, q18, q19, q20, q21, q22, q23, q24, q25, q26, q27, q28, q29, q30, q31] T B U rfl rfl w) ?_
  conv => cbv
  intro ρ R'' _ _ _
  rfl
end Go.Proofs.YtnlpjppjhikooaaDoor.Vh
