/- Strings that are ranged over. -/
/- The types that some functions name, as the evaluator wants them. Printed by a program of my own (seatgen.py). -/
import Derived.Test.YtepfbdfbfimefaaDoorMBfg
import Derived.Test.YtepfbdfbfimefaaDoorSl
import Derived.Test.YtepfbdfbfimefaaDoorProg
import Derived.KernelRfl
section
set_option linter.unusedSimpArgs false
set_option linter.unusedVariables false
namespace Go.Se
open Go

/-- What stands behind an operation that laid one new row and turned nothing else. -/
theorem post_row {R : RO} {hp : List (Nat × HB)} {nx : Nat} {rs : List Row} {ρ : Nat → Nat} {w w' : World} {K : RO → List (Nat × HB) → Nat → List Row → SV → Prop} (hr : HRel R hp nx rs ρ w) (kp : Keep (fun _ => False) w w') {q : Row} (hq : RowOk w' q)
    (hb : q.blk = some w.heap.size) {v : Value} (hk : K R hp nx (q :: rs) (.v v)) :
    ∃ R' hp' nx' rs' ρ' r', (∀ l, l < nx → ρ' l = ρ l) ∧ nx ≤ nx' ∧ (∀ l, nx ≤ l → l < nx' → w.heap.size ≤ ρ' l) ∧ R.le R' ∧ RO.fresh w (Own ρ nx rs) R R' ∧ HRel R' hp' nx' rs' ρ' w' ∧ Keep (Own ρ nx rs) w w' ∧
      (∀ q ∈ rs', ∀ g, q.blk = some g → w.heap.size ≤ g ∨ Own ρ nx rs g) ∧ v = val ρ' r' ∧ lab nx' r' ∧ K R' hp' nx' rs' r' := by
  have h2 := hr.keep kp
  refine ⟨R, hp, nx, q :: rs, ρ, .v v, fun _ _ => rfl, Nat.le_refl _, fun l a b => absurd a (by omega), fun _ _ h => h, fun b o hb => .inl hb, ?_, ⟨kp.os, kp.tape, kp.output, kp.size, fun k hk _ => kp.block k hk (fun h => h)⟩, ?_, rfl, trivial, hk⟩
  · refine ⟨h2.blk, h2.inj, h2.lt, h2.ro, h2.dis, h2.wf, ?_, ?_, ?_⟩
    · intro p hp
      rcases List.mem_cons.1 hp with rfl | hp
      · exact hq
      · exact h2.row p hp
    · intro p hp g hg
      rcases List.mem_cons.1 hp with rfl | hp
      · rw [hb] at hg
        injection hg with hg
        subst hg
        refine ⟨?_, fun l b hl => ?_⟩
        · cases hR : R w.heap.size with
          | none => rfl
          | some o =>
            have := hr.ro _ _ hR
            simp at this
        · have := hr.lt l (hr.wf l b hl).1
          omega
      · exact h2.rdis p hp g hg
    · refine List.pairwise_cons.2 ⟨fun p hp g hg hpg => ?_, h2.rpair⟩
      rw [hb] at hg
      injection hg with hg
      subst hg
      have := row_lt hr hp hpg
      omega
  · intro p hp g hg
    rcases List.mem_cons.1 hp with rfl | hp
    · rw [hb] at hg
      injection hg with hg
      subst hg
      exact .inl (Nat.le_refl _)
    · exact .inr (.inr ⟨p, hp, hg⟩)

theorem mem_set_erase {l : List Row} {i : Nat} {x q : Row} (h : q ∈ l.set i x) : q = x ∨ q ∈ l.eraseIdx i := by
  induction l generalizing i with
  | nil => simp at h
  | cons y l ih =>
    cases i with
    | zero => simpa using h
    | succ i =>
      simp only [List.set_cons_succ, List.mem_cons] at h
      simp only [List.eraseIdx_cons_succ, List.mem_cons]
      rcases h with h | h
      · exact .inr (.inl h)
      · rcases ih h with h | h
        · exact .inl h
        · exact .inr (.inr h)

/-- What stands behind an operation that turned one row alone: it lies where it lay, or anew. -/
theorem post_turn {R : RO} {hp : List (Nat × HB)} {nx : Nat} {rs : List Row} {ρ : Nat → Nat} {w w' : World} {K : RO → List (Nat × HB) → Nat → List Row → SV → Prop} (hr : HRel R hp nx rs ρ w) {i : Nat} {r q : Row} (hi : rs[i]? = some r) (hg : w.grownBy w' r.blk) (hq : RowOk w' q)
    (hb : q.blk = r.blk ∨ q.blk = some w.heap.size) {v : SV} (hl : lab nx v) (hk : K R hp nx (rs.set i q) v) :
    ∃ R' hp' nx' rs' ρ' r', (∀ l, l < nx → ρ' l = ρ l) ∧ nx ≤ nx' ∧ (∀ l, nx ≤ l → l < nx' → w.heap.size ≤ ρ' l) ∧ R.le R' ∧ RO.fresh w (Own ρ nx rs) R R' ∧ HRel R' hp' nx' rs' ρ' w' ∧ Keep (Own ρ nx rs) w w' ∧
      (∀ q ∈ rs', ∀ g, q.blk = some g → w.heap.size ≤ g ∨ Own ρ nx rs g) ∧ val ρ v = val ρ' r' ∧ lab nx' r' ∧ K R' hp' nx' rs' r' := by
  have hm := List.mem_of_getElem? hi
  have hsub : ∀ q ∈ rs.eraseIdx i, q ∈ rs := fun q hq => (List.eraseIdx_sublist _ _).subset hq
  have hne : ∀ p ∈ rs.eraseIdx i, ∀ g, r.blk = some g → p.blk ≠ some g := fun p hp g hrg hpg =>
    pair_erase (p := fun r r' => ∀ g, r.blk = some g → r'.blk ≠ some g) (fun a b h g h1 h2 => h g h2 h1) hr.rpair hi p hp g hpg hrg
  have hqo : ∀ g, q.blk = some g → r.blk = some g ∨ g = w.heap.size := fun g hqg => by
    rcases hb with h | h
    · exact .inl (by rw [← h]; exact hqg)
    · rw [h] at hqg; injection hqg with h; exact .inr h.symm
  have hblk : ∀ k, k < w.heap.size → some k ≠ r.blk → w'.heap[k]? = w.heap[k]? := hg.block
  have hlt : ∀ b o, R b = some o → b < w.heap.size := fun b o hb => by
    have h1 := hr.ro b o hb
    rcases Nat.lt_or_ge b w.heap.size with h2 | h2
    · exact h2
    · rw [Array.getElem?_eq_none h2] at h1; cases h1
  refine ⟨R, hp, nx, rs.set i q, ρ, v, fun _ _ => rfl, Nat.le_refl _, fun l a b => absurd a (by omega), fun _ _ h => h, fun b o hb => .inl hb, ?_, ⟨hg.os, hg.tape, hg.output, hg.size, fun k hk hS => hblk k hk (fun e => hS (.inr ⟨r, hm, e.symm⟩))⟩, ?_, rfl, hl, hk⟩
  · refine ⟨fun l b hl => ?_, hr.inj, fun l hl => Nat.lt_of_lt_of_le (hr.lt l hl) hg.size, fun b o hb => ?_, hr.dis, hr.wf, fun p hp => ?_, fun p hp g hpg => ?_, ?_⟩
    · rw [hblk _ (hr.lt l (hr.wf l b hl).1) (fun e => (hr.rdis r hm _ e.symm).2 l b hl rfl)]
      exact hr.blk l b hl
    · rw [hblk b (hlt b o hb) (fun e => by rw [(hr.rdis r hm b e.symm).1] at hb; cases hb)]
      exact hr.ro b o hb
    · rcases mem_set_erase hp with rfl | hp
      · exact hq
      · refine (hr.row p (hsub p hp)).kept hg ?_
        cases hv : p.v.ownBlock with
        | none => exact .inl rfl
        | some g => exact .inr (fun e => hne p hp g e.symm hv)
    · rcases mem_set_erase hp with rfl | hp
      · rcases hqo g hpg with h | h
        · exact hr.rdis r hm g h
        · subst h
          refine ⟨?_, fun l b hl => ?_⟩
          · cases hR : R w.heap.size with
            | none => rfl
            | some o => have := hlt _ o hR; omega
          · have := hr.lt l (hr.wf l b hl).1
            omega
      · exact hr.rdis p (hsub p hp) g hpg
    · have : ∀ (l : List Row) (i : Nat) (r : Row), l[i]? = some r → (∀ p ∈ l.eraseIdx i, ∀ g, q.blk = some g → p.blk ≠ some g) → (l.Pairwise fun r r' => ∀ g, r.blk = some g → r'.blk ≠ some g) → (l.set i q).Pairwise fun r r' => ∀ g, r.blk = some g → r'.blk ≠ some g := by
        intro l
        induction l with
        | nil => intro i r h; simp at h
        | cons y l ih =>
          intro i r h hx hp
          obtain ⟨p1, p2⟩ := List.pairwise_cons.1 hp
          cases i with
          | zero =>
            simp only [List.set_cons_zero]
            exact List.pairwise_cons.2 ⟨fun p hp g hg => hx p (by simpa using hp) g hg, p2⟩
          | succ i =>
            simp only [List.getElem?_cons_succ] at h
            simp only [List.set_cons_succ]
            refine List.pairwise_cons.2 ⟨fun p hp g hg hpg => ?_, ih i r h (fun p hp => hx p (by simp [hp])) p2⟩
            rcases List.mem_or_eq_of_mem_set hp with hp | rfl
            · exact p1 p hp g hg hpg
            · exact hx y (by simp) g hpg hg
      refine this _ i r hi (fun p hp g hqg hpg => ?_) hr.rpair
      rcases hqo g hqg with h | h
      · exact hne p hp g h hpg
      · have := row_lt hr (hsub p hp) hpg
        omega
  · intro p hp g hpg
    rcases mem_set_erase hp with rfl | hp
    · rcases hqo g hpg with h | h
      · exact .inr (.inr ⟨r, hm, h⟩)
      · exact .inl (Nat.le_of_eq h.symm)
    · exact .inr (.inr ⟨p, hsub p hp, hpg⟩)

/-- A string begins to be ranged over. -/
theorem gen_range {C : Cx} {s : St} {o : Oper} {T : Nat} {x : Operand} {bs : ByteArray} {K : RO → List (Nat × HB) → Nat → List Row → SV → Prop} (ho : o.op = .range T x) (hx : s.ev x = some (.v (.string bs)))
    (hT : C.P.underlying T = some .string)
    (hk : ∀ (a : Addr) (ec : Nat), ec = strCode bs → K s.R s.hp s.nx (⟨some a, 1, 0, ec, 4096, []⟩ :: s.rw_) (.v (.pointer (some a)))) : GenP C s o K := by
  refine ⟨fun ρ w hr ev hev => ?_⟩
  have hrun : (execOp ev o).run C.P w = .ok (.value (.pointer (some ⟨w.heap.size, 0, none⟩))) (w.alloc (.stringIter bs 0)) := by
    unfold execOp
    rw [ho]
    simp only [hev x _ hx, val]
    refine run_v ?_
    simp only [Instr.range, bind]
    rw [run_bind_pure (run_und hT)]
    simp [newObj, Sem.run, Sem.bind, pure]
  rw [hrun]
  have e1 : (w.alloc (.stringIter bs 0)).heap = w.heap.push (.stringIter bs 0) := rfl
  have kp : Keep (fun _ => False) w (w.alloc (.stringIter bs 0)) := ⟨rfl, rfl, rfl, by rw [e1, Array.size_push]; omega, fun k hk _ => by
    rw [e1, Array.getElem?_push, if_neg (by omega)]⟩
  have hnw : (w.alloc (.stringIter bs 0)).heap[w.heap.size]? = some (.stringIter bs 0) := by rw [e1, Array.getElem?_push, if_pos rfl]
  exact post_row (q := ⟨some ⟨w.heap.size, 0, none⟩, 1, 0, strCode bs, 4096, []⟩) hr kp (.inr (.inr ⟨rfl, rfl, w.heap.size, bs, 0, rfl, rfl, rfl, rfl, hnw⟩)) rfl (hk _ _ rfl)

/-- The next character. -/
theorem gen_next {C : Cx} {s : St} {o : Oper} {x : Operand} {bs : ByteArray} {a : Addr} {pos : Nat} {K : RO → List (Nat × HB) → Nat → List Row → SV → Prop} (ho : o.op = .next x true) (hx : s.ev x = some (.v (.pointer (some a))))
    (i : Nat) (r : Row) (hr : s.rw_[i]? = some r) (hra : r.a = some a) (hz : r.sz = 4096) (hc : r.cap = 0) (hn : r.n = pos + 1) (he : r.e = strCode bs)
    (h1 : pos < bs.size → ∀ (n' : Nat) (p c : Int), n' = pos + (Utf8.decode bs pos).2 + 1 → p = (pos : Nat) → c = ((Utf8.decode bs pos).1 : Nat) → K s.R s.hp s.nx (s.rw_.set i ⟨some a, n', 0, r.e, 4096, []⟩) (.v (.tuple #[.bool true, .int .i64 p, .int .i32 c])))
    (h2 : ¬ pos < bs.size → K s.R s.hp s.nx s.rw_ (.v (.tuple #[.bool false]))) : GenP C s o K := by
  refine ⟨fun ρ w hw ev hev => ?_⟩
  have hm := List.mem_of_getElem? hr
  obtain ⟨g, hg, hh⟩ : ∃ g, a = ⟨g, 0, none⟩ ∧ w.heap[g]? = some (.stringIter bs pos) := by
    rcases hw.row r hm with ⟨h, _⟩ | ⟨_, _, bs', h3, h4⟩ | ⟨_, _, g, b', p', h3, h4, h5, h6, h7⟩
    · exact absurd hz h
    · rcases h4.2 with ⟨h5, h6⟩ | ⟨g, cap, cur, fz, h5, -, -, -, h6, -⟩
      · omega
      · simp only [Row.v, Value.slice.injEq] at h5
        omega
    · rw [hra] at h3
      have hb : bs = b' := strCode_inj (by rw [← he, h6])
      have hp : pos = p' := by omega
      refine ⟨g, by simpa using h3, ?_⟩
      rw [hb, hp]
      exact h7
  subst hg
  have hgo : (getObj g).run C.P w = .ok (.stringIter bs pos) w := by simp [getObj, Sem.run, hh]
  have hsz : g < w.heap.size := (Array.getElem?_eq_some_iff.1 hh).1
  by_cases hlt : pos < bs.size
  · obtain ⟨c, wd, hd⟩ : ∃ c wd, Utf8.decode bs pos = (c, wd) := ⟨_, _, rfl⟩
    have hrun : (execOp ev o).run C.P w = .ok (.value (.tuple #[.bool true, .int .i64 (pos : Nat), .int .i32 (c : Nat)])) { w with heap := w.heap.setIfInBounds g (.stringIter bs (pos + wd)) } := by
      unfold execOp
      rw [ho]
      simp only [hev x _ hx, val]
      refine run_v ?_
      simp only [Instr.next, bind]
      rw [run_bind_pure hgo]
      simp only [if_pos hlt, hd]
      simp [setObj, Sem.run, Sem.bind, pure, hh, goInt]
    rw [hrun]
    have hk := h1 hlt _ _ _ rfl rfl rfl
    rw [hd] at hk
    have hgr : w.grownBy { w with heap := w.heap.setIfInBounds g (.stringIter bs (pos + wd)) } r.blk := ⟨rfl, rfl, rfl, by simp, fun k hk hne => by
      show (w.heap.setIfInBounds g _)[k]? = _
      rw [Array.getElem?_setIfInBounds, if_neg (fun e => hne (by rw [row_blk hra]; simp [e]))]⟩
    refine post_turn (v := .v (.tuple #[.bool true, .int .i64 (pos : Nat), .int .i32 (c : Nat)])) (q := ⟨some ⟨g, 0, none⟩, pos + wd + 1, 0, r.e, 4096, []⟩) hw hr hgr (.inr (.inr ⟨rfl, rfl, g, bs, pos + wd, rfl, rfl, rfl, he, ?_⟩)) (.inl (by rw [row_blk hra]; rfl)) trivial hk
    show (w.heap.setIfInBounds g _)[g]? = _
    rw [Array.getElem?_setIfInBounds, if_pos rfl, if_pos hsz]
  · have hrun : (execOp ev o).run C.P w = .ok (.value (.tuple #[.bool false])) w := by
      unfold execOp
      rw [ho]
      simp only [hev x _ hx, val]
      refine run_v ?_
      simp only [Instr.next, bind]
      rw [run_bind_pure hgo]
      simp only [if_neg hlt]
      simp [Sem.run, pure]
    rw [hrun]
    exact post_same (r := .v (.tuple #[.bool false])) hw trivial (h2 hlt)

/-- Bytes of the call's own that are told to be a string's: they are given away. -/
theorem gen_strish {C : Cx} {s : St} {o : Oper} {T e l n c : Nat} {x : Operand} {b : HB} {K : RO → List (Nat × HB) → Nat → List Row → SV → Prop} (ho : o.op = .convert T T x) (hx : s.ev x = some (.se l 0 n c)) (hb : find s.hp l = some b)
    (hT : C.P.underlying T = some (.slice e)) (he : C.P.underlying e = some (.int .u8)) (hk : K s.R (dropHp s.hp l) s.nx s.rw_ (.se l 0 n c)) : GenP C s o K := by
  refine ⟨fun ρ w hr ev hev => ?_⟩
  have hbl := hr.blk l b hb
  have hln := (hr.wf l b hb).1
  obtain ⟨k, hrun⟩ : ∃ k, (execOp ev o).run C.P w = .ok (.value (.slice (some ⟨ρ l, 0, none⟩) n c)) (w.freeze ⟨ρ l, k, none⟩ 1) := by
    refine ⟨b.cs.length, ?_⟩
    unfold execOp
    rw [ho]
    simp only [hev x _ hx, val]
    refine run_v ?_
    have hsh : w.shape? (ρ l) = some (b.ty, b.cs.length) := by simp [World.shape?, hbl, valL_map]
    simp [convert, run_underlying hT, run_underlying he, markStringish, hsh]
  rw [hrun]
  obtain ⟨w', hw'⟩ : ∃ w', w' = w.freeze ⟨ρ l, k, none⟩ 1 := ⟨_, rfl⟩
  rw [← hw']
  have hsize : w'.heap.size = w.heap.size := by rw [hw']; unfold World.freeze; rw [if_neg (by decide)]; simp
  have hblk : ∀ k, k ≠ ρ l → w'.heap[k]? = w.heap[k]? := fun k hk => by
    rw [hw']
    unfold World.freeze
    rw [if_neg (by decide)]
    simp only [Array.getElem?_modify]
    rw [if_neg (fun e => hk e.symm)]
  have hos : w'.os = w.os ∧ w'.tape = w.tape ∧ w'.output = w.output := by
    rw [hw']
    unfold World.freeze
    rw [if_neg (by decide)]
    exact ⟨rfl, rfl, rfl⟩
  refine ⟨s.R, dropHp s.hp l, s.nx, s.rw_, ρ, .se l 0 n c, fun _ _ => rfl, Nat.le_refl _, fun l a b => absurd a (by omega), fun _ _ h => h, fun b o hb => .inl hb, ?_, ⟨hos.1, hos.2.1, hos.2.2, Nat.le_of_eq hsize.symm, fun k hk hS => hblk k (fun e => hS (.inl ⟨l, hln, e⟩))⟩, fun q hq g hg => .inr (.inr ⟨q, hq, hg⟩), rfl, hln, hk⟩
  have hfd := fun k b h => find_drop l s.hp k b h
  refine ⟨fun k d hd => ?_, hr.inj, fun k hk => by rw [hsize]; exact hr.lt k hk, fun g o hg => ?_, fun k d hd => hr.dis k d (hfd k d hd).1, fun k d hd => hr.wf k d (hfd k d hd).1, fun q hq => ?_, fun q hq g hg => ?_, hr.rpair⟩
  · obtain ⟨h1, h2⟩ := hfd k d hd
    rw [hblk _ (fun e => h2 (hr.inj k l (hr.wf k d h1).1 hln e))]
    exact hr.blk k d h1
  · rw [hblk g (fun e => by have := hr.dis l b hb; rw [← e, hg] at this; cases this)]
    exact hr.ro g o hg
  · refine (hr.row q hq).kept (row := some (ρ l)) ⟨hos.1, hos.2.1, hos.2.2, Nat.le_of_eq hsize.symm, fun k _ hne => hblk k (fun e => hne (by rw [e]))⟩ ?_
    cases hv : q.v.ownBlock with
    | none => exact .inl rfl
    | some g => exact .inr (fun e => (hr.rdis q hq g hv).2 l b hb (by injection e with e; exact e.symm))
  · obtain ⟨h1, h2⟩ := hr.rdis q hq g hg
    exact ⟨h1, fun k d hd => h2 k d (hfd k d hd).1⟩
end Go.Se
end
section
namespace Go.Proofs.YtepfbdfbfimefaaDoor.Tyei
open Go Go.Se Go.Proofs

/-- int -/
def y3 : Ty := ⟨.int .i64, 1, false, .int .i64 0, 8⟩
theorem ty3 : tyOf Tryd.prog 3 = some y3 := by kernel_rfl
/-- uint8 -/
def y5 : Ty := ⟨.int .u8, 1, false, .int .u8 0, 1⟩
theorem ty5 : tyOf Tryd.prog 5 = some y5 := by kernel_rfl
/-- string -/
def y9 : Ty := ⟨.str, 1, false, .string ByteArray.empty, 16⟩
theorem ty9 : tyOf Tryd.prog 9 = some y9 := by kernel_rfl
/-- int32 -/
def y21 : Ty := ⟨.int .i32, 1, false, .int .i32 0, 4⟩
theorem ty21 : tyOf Tryd.prog 21 = some y21 := by kernel_rfl
/-- []uint8 -/
def y22 : Ty := ⟨.slc 5, 1, false, .slice none 0 0, 24⟩
theorem ty22 : tyOf Tryd.prog 22 = some y22 := by kernel_rfl
/-- uint64 -/
def y33 : Ty := ⟨.int .u64, 1, false, .int .u64 0, 8⟩
theorem ty33 : tyOf Tryd.prog 33 = some y33 := by kernel_rfl
/-- big.Int -/
def y50 : Ty := ⟨.stc [(0, 4), (1, 48)], 2, true, .agg #[.bool false, .slice none 0 0], 32⟩
theorem ty50 : tyOf Tryd.prog 50 = some y50 := by kernel_rfl
/-- [256]uint8 -/
def y59 : Ty := ⟨.arr 256 5, 256, true, .agg #[.int .u8 0, .int .u8 0, .int .u8 0, .int .u8 0, .int .u8 0, .int .u8 0, .int .u8 0, .int .u8 0, .int .u8 0, .int .u8 0, .int .u8 0, .int .u8 0, .int .u8 0, .int .u8 0, .int .u8 0, .int .u8 0, .int .u8 0, .int .u8 0, .int .u8 0, .int .u8 0, .int .u8 0, .int .u8 0, .int .u8 0, .int .u8 0, .int .u8 0, .int .u8 0, .int .u8 0, .int .u8 0, .int .u8 0, .int .u8 0, .int .u8 0, .int .u8 0, .int .u8 0, .int .u8 0, .int .u8 0, .int .u8 0, .int .u8 0, .int .u8 0, .int .u8 0, .int .u8 0, .int .u8 0, .int .u8 0, .int .u8 0, .int .u8 0, .int .u8 0, .int .u8 0, .int .u8 0, .int .u8 0, .int .u8 0, .int .u8 0, .int .u8 0, .int .u8 0, .int .u8 0, .int .u8 0, .int .u8 0, .int .u8 0, .int .u8 0, .int .u8 0, .int .u8 0, .int .u8 0, .int .u8 0, .int .u8 0, .int .u8 0, .int .u8 0, .int .u8 0, .int .u8 0, .int .u8 0, .int .u8 0, .int .u8 0, .int .u8 0, .int .u8 0, .int .u8 0, .int .u8 0, .int .u8 0, .int .u8 0, .int .u8 0, .int .u8 0, .int .u8 0, .int .u8 0, .int .u8 0, .int .u8 0, .int .u8 0, .int .u8 0, .int .u8 0, .int .u8 0, .int .u8 0, .int .u8 0, .int .u8 0, .int .u8 0, .int .u8 0, .int .u8 0, .int .u8 0, .int .u8 0, .int .u8 0, .int .u8 0, .int .u8 0, .int .u8 0, .int .u8 0, .int .u8 0, .int .u8 0, .int .u8 0, .int .u8 0, .int .u8 0, .int .u8 0, .int .u8 0, .int .u8 0, .int .u8 0, .int .u8 0, .int .u8 0, .int .u8 0, .int .u8 0, .int .u8 0, .int .u8 0, .int .u8 0, .int .u8 0, .int .u8 0, .int .u8 0, .int .u8 0, .int .u8 0, .int .u8 0, .int .u8 0, .int .u8 0, .int .u8 0, .int .u8 0, .int .u8 0, .int .u8 0, .int .u8 0, .int .u8 0, .int .u8 0, .int .u8 0, .int .u8 0, .int .u8 0, .int .u8 0, .int .u8 0, .int .u8 0, .int .u8 0, .int .u8 0, .int .u8 0, .int .u8 0, .int .u8 0, .int .u8 0, .int .u8 0, .int .u8 0, .int .u8 0, .int .u8 0, .int .u8 0, .int .u8 0, .int .u8 0, .int .u8 0, .int .u8 0, .int .u8 0, .int .u8 0, .int .u8 0, .int .u8 0, .int .u8 0, .int .u8 0, .int .u8 0, .int .u8 0, .int .u8 0, .int .u8 0, .int .u8 0, .int .u8 0, .int .u8 0, .int .u8 0, .int .u8 0, .int .u8 0, .int .u8 0, .int .u8 0, .int .u8 0, .int .u8 0, .int .u8 0, .int .u8 0, .int .u8 0, .int .u8 0, .int .u8 0, .int .u8 0, .int .u8 0, .int .u8 0, .int .u8 0, .int .u8 0, .int .u8 0, .int .u8 0, .int .u8 0, .int .u8 0, .int .u8 0, .int .u8 0, .int .u8 0, .int .u8 0, .int .u8 0, .int .u8 0, .int .u8 0, .int .u8 0, .int .u8 0, .int .u8 0, .int .u8 0, .int .u8 0, .int .u8 0, .int .u8 0, .int .u8 0, .int .u8 0, .int .u8 0, .int .u8 0, .int .u8 0, .int .u8 0, .int .u8 0, .int .u8 0, .int .u8 0, .int .u8 0, .int .u8 0, .int .u8 0, .int .u8 0, .int .u8 0, .int .u8 0, .int .u8 0, .int .u8 0, .int .u8 0, .int .u8 0, .int .u8 0, .int .u8 0, .int .u8 0, .int .u8 0, .int .u8 0, .int .u8 0, .int .u8 0, .int .u8 0, .int .u8 0, .int .u8 0, .int .u8 0, .int .u8 0, .int .u8 0, .int .u8 0, .int .u8 0, .int .u8 0, .int .u8 0, .int .u8 0, .int .u8 0, .int .u8 0, .int .u8 0, .int .u8 0, .int .u8 0, .int .u8 0, .int .u8 0, .int .u8 0, .int .u8 0, .int .u8 0, .int .u8 0, .int .u8 0, .int .u8 0, .int .u8 0, .int .u8 0, .int .u8 0, .int .u8 0, .int .u8 0, .int .u8 0, .int .u8 0, .int .u8 0], 256⟩
theorem ty59 : tyOf Tryd.prog 59 = some y59 := by kernel_rfl

/-- function 16: pub-mintmark/pub/btcdaddress/base58.Decode -/
def tys16 : Nat → Option Ty := fun t => find [(50, y50), (9, y9), (3, y3), (21, y21), (22, y22), (5, y5), (59, y59), (33, y33)] t
theorem ok16 : TysOk Tryd.prog tys16 := tysOk_of ⟨ty50, ty9, ty3, ty21, ty22, ty5, ty59, ty33, trivial⟩
end Go.Proofs.YtepfbdfbfimefaaDoor.Tyei
end
