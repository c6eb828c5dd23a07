/- Bytes out of a string; a builder's room; strings of rows whose head is frozen from then on. -/
import Derived.Test.YtfkdaelfehibcaaDoorDsa
import Derived.Lib.MakeNoZero
import Derived.Lib.ConvBytes
set_option linter.unusedSimpArgs false
set_option linter.unusedVariables false
namespace Go.Se
open Go

/-- What stands behind an operation that laid one new row and turned nothing else. -/
theorem post_row {R : RO} {hp : List (Nat × HB)} {nx : Nat} {rs : List Row} {ρ : Nat → Nat} {w w' : World} {K : RO → List (Nat × HB) → Nat → List Row → SV → Prop} (hr : HRel R hp nx rs ρ w) (kp : Keep (fun _ => False) w w') {q : Row} (hq : RowOk w' q)
    (hb : q.blk = some w.heap.size) {v : Value} (hk : K R hp nx (q :: rs) (.v v)) :
    ∃ R' hp' nx' rs' ρ' r', (∀ l, l < nx → ρ' l = ρ l) ∧ nx ≤ nx' ∧ (∀ l, nx ≤ l → l < nx' → w.heap.size ≤ ρ' l) ∧ R.le R' ∧ RO.fresh w (Own ρ nx rs) R R' ∧ HRel R' hp' nx' rs' ρ' w' ∧ Keep (Own ρ nx rs) w w' ∧
      (∀ q ∈ rs', ∀ g, q.blk = some g → w.heap.size ≤ g ∨ Own ρ nx rs g) ∧ v = val ρ' r' ∧ lab nx' r' ∧ K R' hp' nx' rs' r' := by
  have h2 := hr.keep kp
  refine ⟨R, hp, nx, q :: rs, ρ, .v v, fun _ _ => rfl, Nat.le_refl _, fun l a b => absurd a (by omega), fun _ _ h => h, fun b o hb => .inl hb, ?_, ⟨kp.os, kp.tape, kp.output, kp.size, fun k hk _ => kp.block k hk (fun h => h)⟩, ?_, rfl, trivial, hk⟩
  · refine ⟨h2.blk, h2.inj, h2.lt, h2.ro, h2.dis, h2.wf, ?_, ?_, ?_⟩
    · intro p hp
      rcases List.mem_cons.1 hp with rfl | hp
      · exact hq
      · exact h2.row p hp
    · intro p hp g hg
      rcases List.mem_cons.1 hp with rfl | hp
      · rw [hb] at hg
        injection hg with hg
        subst hg
        refine ⟨?_, fun l b hl => ?_⟩
        · cases hR : R w.heap.size with
          | none => rfl
          | some o =>
            have := hr.ro _ _ hR
            simp at this
        · have := hr.lt l (hr.wf l b hl).1
          omega
      · exact h2.rdis p hp g hg
    · refine List.pairwise_cons.2 ⟨fun p hp g hg hpg => ?_, h2.rpair⟩
      rw [hb] at hg
      injection hg with hg
      subst hg
      have := row_lt hr hp hpg
      omega
  · intro p hp g hg
    rcases List.mem_cons.1 hp with rfl | hp
    · rw [hb] at hg
      injection hg with hg
      subst hg
      exact .inl (Nat.le_refl _)
    · exact .inr (.inr ⟨p, hp, hg⟩)

/-- A string as bytes of the call's own. -/
theorem gen_s2b {C : Cx} {s : St} {o : Oper} {S D e : Nat} {x : Operand} {bs : ByteArray} {u : TypeDesc} {K : RO → List (Nat × HB) → Nat → List Row → SV → Prop} (ho : o.op = .convert S D x) (hx : s.ev x = some (.v (.string bs)))
    (hS : C.P.underlying S = some u) (hD : C.P.underlying D = some (.slice e)) (he : C.P.underlying e = some (.int .u8)) (hmx : bs.size ≤ 140737488355328)
    (hk : ∀ (a : Addr) (n cap : Nat) (zs : List Value), n = bs.size → zs = byteCells bs → K s.R s.hp s.nx (⟨some a, n, cap, e, 1, zs⟩ :: s.rw_) (.v (.slice (some a) n cap))) : GenP C s o K := by
  refine ⟨fun ρ w hr ev hev => ?_⟩
  have hrun : (execOp ev o).run C.P w = .ok (.value (.slice (some ⟨w.heap.size, 0, none⟩) bs.size (grownCap w bs.size 0 e))) (Lib.bytesWorld w e bs) := by
    unfold execOp
    rw [ho]
    simp only [hev x _ hx, val]
    exact run_v (Lib.run_convert_string_bytes w S D e bs hS hD he)
  rw [hrun]
  have kp : Keep (fun _ => False) w (Lib.bytesWorld w e bs) := ⟨rfl, rfl, rfl, by rw [Lib.bytesWorld_size]; omega, fun k hk _ => Lib.bytesWorld_at_old w e bs k hk⟩
  have hge := grownCap_ge w bs.size 0 e
  have hml : grownCap w bs.size 0 e ≤ maxLen := grownCap_le_maxLen w bs.size 0 e (by unfold maxLen; omega)
  have hsz : (Lib.bytesCells w e bs).size = grownCap w bs.size 0 e := by
    unfold Lib.bytesCells
    rw [Array.size_append, Array.size_map, Array.size_replicate]
    show bs.size + (grownCap w bs.size 0 e - bs.size) = _
    omega
  have hbl : (byteCells bs).length = bs.size := byteCells_length bs
  refine post_row (q := ⟨some ⟨w.heap.size, 0, none⟩, bs.size, grownCap w bs.size 0 e, e, 1, byteCells bs⟩) hr kp (.inl ⟨(by decide : (1 : Nat) ≠ 4096), by rw [hbl, Nat.mul_one], .inr ⟨w.heap.size, grownCap w bs.size 0 e, Lib.bytesCells w e bs, rfl, Nat.zero_le _, ⟨_, Lib.bytesWorld_at_new w e bs, fun j h1 h2 => by omega⟩, hge, hml, by rw [hsz, Nat.mul_one], ?_⟩⟩) rfl (hk _ _ _ _ rfl rfl)
  rw [Nat.mul_one]
  unfold Lib.bytesCells
  rw [Array.toList_append, List.take_left' (by rw [Array.toList_map, List.length_map]; rfl), Array.toList_map]
  rfl

/-- A builder's room. -/
theorem gen_mnz {C : Cx} {s : St} {o : Oper} {c : Call} {f : Nat} {g : Func} {t e n : Nat} {ni : Int} {ps : Array TypeId} {K : RO → List (Nat × HB) → Nat → List Row → SV → Prop} (ho : o.op = .call c) (hc : c.callee = .value (.func f)) (ha : evs s c.args.toList = some [.v (.int .i64 ni)]) (hni : ni = n) (hn : n ≤ 1000000)
    (hf : C.P.funcs[f]? = some g) (hnm : (g.name == "runtime.NumGoroutine") = false) (hb : g.body.isNone = true) (hx : Extern.findNext g = none) (he : Extern.find g = some (Extern.BytealgMakeNoZero.makeNoZero ps #[t])) (ht : C.P.underlying t = some (.slice e))
    (hk : ∀ (a : Addr) (cap : Nat), n ≤ cap → K s.R s.hp s.nx (⟨some a, 0, cap, e, 4096, []⟩ :: s.rw_) (.v (.slice (some a) n cap))) : GenP C s o K := by
  subst hni
  refine ⟨fun ρ w hr ev hev => ?_⟩
  rw [run_callf hev ho hc ha]
  obtain ⟨cs, hrun, h1, h2⟩ := Lib.run_makeNoZero (P := C.P) w ps t e ht n (by omega)
  rw [run_callFunc_extern hf hnm hb hx he]
  rw [show (valL ρ [SV.v (.int .i64 (n : Int))]).toArray = #[Value.int .i64 (n : Int)] from rfl, hrun]
  have e1 : (w.drew.drew.alloc (.cells cs e)).heap = w.heap.push (.cells cs e) := rfl
  have kp : Keep (fun _ => False) w (w.drew.drew.alloc (.cells cs e)) := ⟨rfl, rfl, rfl, by rw [e1, Array.size_push]; omega, fun k hk _ => by
    rw [e1, Array.getElem?_push, if_neg (by omega)]⟩
  have hnw : (w.drew.drew.alloc (.cells cs e)).heap[w.heap.size]? = some (.cells cs e (0, 0)) := by rw [e1, Array.getElem?_push, if_pos rfl]
  have hml := h2 (by unfold maxLen; omega)
  exact post_row (q := ⟨some ⟨w.heap.size, 0, none⟩, 0, cs.size, e, 4096, []⟩) hr kp (.inr ⟨rfl, rfl, ⟨#[]⟩, rfl, rfl, .inr ⟨w.heap.size, cs.size, cs, (0, 0), rfl, Nat.zero_le _, hnw, Nat.zero_le _, Nat.zero_le _, hml, by rw [Nat.mul_one], rfl⟩⟩) rfl (hk _ _ h1)

theorem mem_set_erase {l : List Row} {i : Nat} {x q : Row} (h : q ∈ l.set i x) : q = x ∨ q ∈ l.eraseIdx i := by
  induction l generalizing i with
  | nil => simp at h
  | cons y l ih =>
    cases i with
    | zero => simpa using h
    | succ i =>
      simp only [List.set_cons_succ, List.mem_cons] at h
      simp only [List.eraseIdx_cons_succ, List.mem_cons]
      rcases h with h | h
      · exact .inr (.inl h)
      · rcases ih h with h | h
        · exact .inl h
        · exact .inr (.inr h)

/-- What stands behind an operation that turned one row alone: it lies where it lay, or anew. -/
theorem post_turn {R : RO} {hp : List (Nat × HB)} {nx : Nat} {rs : List Row} {ρ : Nat → Nat} {w w' : World} {K : RO → List (Nat × HB) → Nat → List Row → SV → Prop} (hr : HRel R hp nx rs ρ w) {i : Nat} {r q : Row} (hi : rs[i]? = some r) (hg : w.grownBy w' r.blk) (hq : RowOk w' q)
    (hb : q.blk = r.blk ∨ q.blk = some w.heap.size) {v : SV} (hl : lab nx v) (hk : K R hp nx (rs.set i q) v) :
    ∃ R' hp' nx' rs' ρ' r', (∀ l, l < nx → ρ' l = ρ l) ∧ nx ≤ nx' ∧ (∀ l, nx ≤ l → l < nx' → w.heap.size ≤ ρ' l) ∧ R.le R' ∧ RO.fresh w (Own ρ nx rs) R R' ∧ HRel R' hp' nx' rs' ρ' w' ∧ Keep (Own ρ nx rs) w w' ∧
      (∀ q ∈ rs', ∀ g, q.blk = some g → w.heap.size ≤ g ∨ Own ρ nx rs g) ∧ val ρ v = val ρ' r' ∧ lab nx' r' ∧ K R' hp' nx' rs' r' := by
  have hm := List.mem_of_getElem? hi
  have hsub : ∀ q ∈ rs.eraseIdx i, q ∈ rs := fun q hq => (List.eraseIdx_sublist _ _).subset hq
  have hne : ∀ p ∈ rs.eraseIdx i, ∀ g, r.blk = some g → p.blk ≠ some g := fun p hp g hrg hpg =>
    pair_erase (p := fun r r' => ∀ g, r.blk = some g → r'.blk ≠ some g) (fun a b h g h1 h2 => h g h2 h1) hr.rpair hi p hp g hpg hrg
  have hqo : ∀ g, q.blk = some g → r.blk = some g ∨ g = w.heap.size := fun g hqg => by
    rcases hb with h | h
    · exact .inl (by rw [← h]; exact hqg)
    · rw [h] at hqg; injection hqg with h; exact .inr h.symm
  have hblk : ∀ k, k < w.heap.size → some k ≠ r.blk → w'.heap[k]? = w.heap[k]? := hg.block
  have hlt : ∀ b o, R b = some o → b < w.heap.size := fun b o hb => by
    have h1 := hr.ro b o hb
    rcases Nat.lt_or_ge b w.heap.size with h2 | h2
    · exact h2
    · rw [Array.getElem?_eq_none h2] at h1; cases h1
  refine ⟨R, hp, nx, rs.set i q, ρ, v, fun _ _ => rfl, Nat.le_refl _, fun l a b => absurd a (by omega), fun _ _ h => h, fun b o hb => .inl hb, ?_, ⟨hg.os, hg.tape, hg.output, hg.size, fun k hk hS => hblk k hk (fun e => hS (.inr ⟨r, hm, e.symm⟩))⟩, ?_, rfl, hl, hk⟩
  · refine ⟨fun l b hl => ?_, hr.inj, fun l hl => Nat.lt_of_lt_of_le (hr.lt l hl) hg.size, fun b o hb => ?_, hr.dis, hr.wf, fun p hp => ?_, fun p hp g hpg => ?_, ?_⟩
    · rw [hblk _ (hr.lt l (hr.wf l b hl).1) (fun e => (hr.rdis r hm _ e.symm).2 l b hl rfl)]
      exact hr.blk l b hl
    · rw [hblk b (hlt b o hb) (fun e => by rw [(hr.rdis r hm b e.symm).1] at hb; cases hb)]
      exact hr.ro b o hb
    · rcases mem_set_erase hp with rfl | hp
      · exact hq
      · refine (hr.row p (hsub p hp)).kept hg ?_
        cases hv : p.v.ownBlock with
        | none => exact .inl rfl
        | some g => exact .inr (fun e => hne p hp g e.symm hv)
    · rcases mem_set_erase hp with rfl | hp
      · rcases hqo g hpg with h | h
        · exact hr.rdis r hm g h
        · subst h
          refine ⟨?_, fun l b hl => ?_⟩
          · cases hR : R w.heap.size with
            | none => rfl
            | some o => have := hlt _ o hR; omega
          · have := hr.lt l (hr.wf l b hl).1
            omega
      · exact hr.rdis p (hsub p hp) g hpg
    · have : ∀ (l : List Row) (i : Nat) (r : Row), l[i]? = some r → (∀ p ∈ l.eraseIdx i, ∀ g, q.blk = some g → p.blk ≠ some g) → (l.Pairwise fun r r' => ∀ g, r.blk = some g → r'.blk ≠ some g) → (l.set i q).Pairwise fun r r' => ∀ g, r.blk = some g → r'.blk ≠ some g := by
        intro l
        induction l with
        | nil => intro i r h; simp at h
        | cons y l ih =>
          intro i r h hx hp
          obtain ⟨p1, p2⟩ := List.pairwise_cons.1 hp
          cases i with
          | zero =>
            simp only [List.set_cons_zero]
            exact List.pairwise_cons.2 ⟨fun p hp g hg => hx p (by simpa using hp) g hg, p2⟩
          | succ i =>
            simp only [List.getElem?_cons_succ] at h
            simp only [List.set_cons_succ]
            refine List.pairwise_cons.2 ⟨fun p hp g hg hpg => ?_, ih i r h (fun p hp => hx p (by simp [hp])) p2⟩
            rcases List.mem_or_eq_of_mem_set hp with hp | rfl
            · exact p1 p hp g hg hpg
            · exact hx y (by simp) g hpg hg
      refine this _ i r hi (fun p hp g hqg hpg => ?_) hr.rpair
      rcases hqo g hqg with h | h
      · exact hne p hp g h hpg
      · have := row_lt hr (hsub p hp) hpg
        omega
  · intro p hp g hpg
    rcases mem_set_erase hp with rfl | hp
    · rcases hqo g hpg with h | h
      · exact .inr (.inr ⟨r, hm, h⟩)
      · exact .inl (Nat.le_of_eq h.symm)
    · exact .inr (.inr ⟨p, hsub p hp, hpg⟩)

/-- A byte appended to a row whose head is frozen. -/
theorem gen_app1 {C : Cx} {s : St} {o : Oper} {c : Call} {t tx e l cl : Nat} {a : Option Addr} {n k : Nat} {b : Int} {j : TypeInfo} {hb : HB} {K : RO → List (Nat × HB) → Nat → List Row → SV → Prop} (ho : o.op = .call c) (hc : c.callee = .builtin .append) (ha : evs s c.args.toList = some [.v (.slice a n k), .se l 0 1 cl])
    (hat : c.argTypes[0]? = some t) (hat2 : c.argTypes[1]? = some tx) (ht : C.P.underlying t = some (.slice e)) (htx : C.P.underlying tx = some (.slice e)) (he : C.P.info? e = some j) (hj : j.size = 1 ∧ j.zero = some (.int .u8 0) ∧ j.bytes = 1)
    (hbl : find s.hp l = some hb) (hbc : hb.cs = [.v (.int .u8 b)]) (hb0 : 0 ≤ b ∧ b ≤ 255)
    (i : Nat) (r : Row) (hr : s.rw_[i]? = some r) (hra : r.a = a) (hrn : r.n = n) (hrk : r.cap = k) (hre : r.e = e) (hz : r.sz = 4096) (hx : r.xs = []) (hn : n ≤ 1000000)
    (hk : ∀ a' n' k', n' = n + 1 → K s.R s.hp s.nx (s.rw_.set i ⟨some a', n', k', e, 4096, []⟩) (.v (.slice (some a') n' k'))) : GenP C s o K := by
  refine ⟨fun ρ w hw ev hev => ?_⟩
  have e2 := evs_arr hev ha
  have hm := List.mem_of_getElem? hr
  subst hra hrn hrk hre
  have hown : ∃ bs : ByteArray, bs.size = r.n ∧ w.ownsRowF 0 r.e 1 r.v r.n (byteCells bs) := by
    rcases hw.row r hm with h | ⟨_, _, h⟩
    · exact absurd hz h.1
    · exact h
  obtain ⟨bs, hbs, hown⟩ := hown
  have hval : val ρ (.se l 0 1 cl) = .slice (some ⟨ρ l, 0, none⟩) 1 cl := rfl
  have hsrc : SrcK s 1 (.se l 0 1 cl) 1 [.int .u8 b] := .own l 0 1 cl hb _ hbl (by rw [hbc]; rfl) rfl (by intro v hv; rw [List.mem_singleton.1 hv]; rfl)
  have hsrc' := src_sound (P := C.P) (hs := hw) (tx := tx) (.inl ⟨_, htx⟩) hsrc
  have hown : w.ownsRowF 0 r.e j.size r.v r.n (byteCells bs) := by rw [hj.1]; exact hown
  have hsrc' : Src C.P j.size tx (val ρ (.se l 0 1 cl)) 1 [.int .u8 b] w := by rw [hj.1]; exact hsrc'
  obtain ⟨v', w', hrun, r1, r2, r3, r4⟩ := run_appendF (P := C.P) (w := w) (ty := o.type) ht he hj.2.1 (by rw [hj.1]; rfl) hown hsrc' (by unfold maxLen; omega) (by rw [hj.2.2]; omega)
  rw [hj.1] at r1
  have hat : ∀ ty xs, Builtin.append_ c.argTypes ty xs = Builtin.append_ #[t, tx] ty xs := by
    intro ty xs
    simp only [Builtin.append_, hat, hat2]
    rfl
  have hex : (execOp ev o).run C.P w = .ok (.value v') w' := by
    unfold execOp
    rw [ho]
    simp only [resolve, hc, bind, pure, Sem.bind, invoke, builtin, e2, valL, hat]
    rw [show val ρ (.v (.slice r.a r.n r.cap)) = r.v from rfl, run_bind_pure hrun]
    rfl
  rw [hex]
  obtain ⟨g, cap, cur, fz, hv, hrest⟩ : ∃ g cap cur fz, v' = .slice (some ⟨g, 0, none⟩) (r.n + 1) cap ∧ 0 ≤ g ∧ w'.heap[g]? = some (.cells cur r.e fz) ∧ fz.2 ≤ (r.n + 1) * 1 ∧ r.n + 1 ≤ cap ∧ cap ≤ maxLen ∧ cur.size = cap * 1 ∧ cur.toList.take ((r.n + 1) * 1) = byteCells bs ++ [.int .u8 b] := by
    rcases r1.2 with ⟨_, h0⟩ | h
    · omega
    · exact h
  subst hv
  have hbb : byteCells bs ++ [Value.int .u8 b] = byteCells (bs.push (UInt8.ofNat b.toNat)) := by
    unfold byteCells
    rw [show (bs.push (UInt8.ofNat b.toNat)).data.toList = bs.data.toList ++ [UInt8.ofNat b.toNat] by simp [ByteArray.push], List.map_append]
    congr 1
    simp only [List.map_cons, List.map_nil, UInt8.toNat_ofNat']
    congr 2
    omega
  have hps : (bs.push (UInt8.ofNat b.toNat)).size = r.n + 1 := by rw [ByteArray.size_push, hbs]
  rw [hbb] at r1
  refine post_turn (v := .v (.slice (some ⟨g, 0, none⟩) (r.n + 1) cap)) (q := ⟨some ⟨g, 0, none⟩, r.n + 1, cap, r.e, 4096, []⟩) hw hr r2 (.inr ⟨rfl, rfl, _, hps, r1⟩) ?_ trivial (hk _ _ _ rfl)
  rcases r3 with h | h
  · exact .inl h
  · exact .inr h

/-- Where the bytes of such a row lie. -/
theorem gen_sdF {C : Cx} {s : St} {o : Oper} {c : Call} {a : Addr} {n k : Nat} {K : RO → List (Nat × HB) → Nat → List Row → SV → Prop} (ho : o.op = .call c) (hc : c.callee = .builtin .unsafeSliceData) (ha : evs s c.args.toList = some [.v (.slice (some a) n k)])
    (i : Nat) (r : Row) (hr : s.rw_[i]? = some r) (hra : r.a = some a) (hrn : r.n = n) (hrk : r.cap = k) (hz : r.sz = 4096) (hn : n ≠ 0) (hk : K s.R s.hp s.nx s.rw_ (.v (.pointer (some a)))) : GenP C s o K := by
  refine gen_pure (.v (.pointer (some a))) trivial (fun ρ w hw ev hev => ?_) hk
  have e2 := evs_arr hev ha
  have hcap : k ≠ 0 := by
    rcases hw.row r (List.mem_of_getElem? hr) with h | ⟨_, _, bs, _, h1⟩
    · exact absurd hz h.1
    · rcases h1.2 with ⟨h2, _⟩ | ⟨g, cap, cur, fz, h2, _, _, _, h3, _⟩
      · rw [Row.v, hra] at h2; cases h2
      · rw [Row.v] at h2
        injection h2 with h4 h5 h6
        omega
  unfold execOp
  rw [ho]
  simp only [resolve, hc, bind, pure, Sem.bind, invoke, builtin, e2, valL, val]
  rw [run_bind_pure (Lib.run_unsafeSliceData_row w _ _ a n k hcap)]
  rfl

/-- The bytes of such a row as a string. -/
theorem gen_ustrF {C : Cx} {s : St} {o : Oper} {c : Call} {a : Addr} {ni : Int} {pt it : Nat} {K : RO → List (Nat × HB) → Nat → List Row → SV → Prop} (ho : o.op = .call c) (hc : c.callee = .builtin .unsafeString) (ha : evs s c.args.toList = some [.v (.pointer (some a)), .v (.int .i64 ni)])
    (i : Nat) (r : Row) (hr : s.rw_[i]? = some r) (hra : r.a = some a) (hz : r.sz = 4096) (hx : r.xs = []) (hn0 : r.n ≠ 0) (hni : ni = r.n) (ht : c.argTypes = #[pt, it]) (hu : C.P.underlying pt = some (.pointer r.e)) (hcl : C.P.cellsOf r.e = 1) (hmx : r.n ≤ 9223372036854775807)
    (hk : ∀ bs, K s.R s.hp s.nx s.rw_ (.v (.string bs))) : GenP C s o K := by
  refine ⟨fun ρ w hw ev hev => ?_⟩
  have e2 := evs_arr hev ha
  have hm := List.mem_of_getElem? hr
  have hown : ∃ bs : ByteArray, bs.size = r.n ∧ w.ownsRowF 0 r.e 1 r.v r.n (byteCells bs) := by
    rcases hw.row r hm with h | ⟨_, _, h⟩
    · exact absurd hz h.1
    · exact h
  obtain ⟨bs, hbs, h1⟩ := hown
  obtain ⟨g, cap, cur, fz, hv, _, hg, hfz, hncap, hcm, hcs, hct⟩ : ∃ g cap cur fz, r.v = .slice (some ⟨g, 0, none⟩) r.n cap ∧ 0 ≤ g ∧ w.heap[g]? = some (.cells cur r.e fz) ∧ fz.2 ≤ r.n * 1 ∧ r.n ≤ cap ∧ cap ≤ maxLen ∧ cur.size = cap * 1 ∧ cur.toList.take (r.n * 1) = byteCells bs := by
    rcases h1.2 with ⟨h2, _⟩ | h2
    · rw [Row.v, hra] at h2; cases h2
    · exact h2
  have hag : a = ⟨g, 0, none⟩ := by
    rw [Row.v, hra] at hv
    injection hv with hv
    injection hv
  subst hag
  rw [Nat.mul_one] at hcs hct hfz
  have hlen : bs.data.toList.length = r.n := by rw [← hbs]; simp
  have hblk : r.blk = some g := by rw [Row.blk, hv]; rfl
  have hrun : (execOp ev o).run C.P w = .ok (.value (.string bs)) (w.freeze ⟨g, 0, none⟩ r.n) := by
    have h5 := Lib.run_unsafeString_row (P := C.P) w pt it o.type r.e hu hcl g cur.size (by simp [World.shape?, hg]) bs.data.toList (by rw [← List.length_pos_iff]; omega) (by rw [hlen, hcs]; exact hncap) (by rw [hlen]; exact hmx) (fun j x hx => by
      have hj : j < r.n := by rw [← hlen]; exact (List.getElem?_eq_some_iff.1 hx).1
      have h6 : (byteCells bs)[j]? = some (.int .u8 x.toNat) := by rw [byteCells, List.getElem?_map, hx]; rfl
      rw [← hct, List.getElem?_take, if_pos hj] at h6
      have h7 : ((⟨g, 0, none⟩ : Addr).add j) = ⟨g, j, none⟩ := by
        unfold Addr.add
        split
        · rename_i h; rw [h]
        · simp
      rw [h7]
      simpa [World.cell?, hg] using h6)
    rw [hlen, ← hni] at h5
    unfold execOp
    rw [ho]
    simp only [resolve, hc, bind, pure, Sem.bind, invoke, builtin, e2, valL, val, ht]
    rw [run_bind_pure h5]
    rfl
  rw [hrun]
  have hgr : w.grownBy (w.freeze ⟨g, 0, none⟩ r.n) r.blk := by
    rw [hblk]
    unfold World.freeze
    rw [if_neg hn0]
    refine ⟨rfl, rfl, rfl, by simp, fun k _ hk => ?_⟩
    simp only [Array.getElem?_modify]
    rw [if_neg (fun h => hk (by rw [← h]))]
  have hfr : ∃ fz2, (w.freeze ⟨g, 0, none⟩ r.n).heap[g]? = some (.cells cur r.e fz2) ∧ fz2.2 ≤ r.n := by
    unfold World.freeze
    rw [if_neg hn0]
    simp only [Array.getElem?_modify, if_true, hg]
    refine ⟨_, rfl, ?_⟩
    split
    · show 0 + r.n ≤ r.n; omega
    · show max fz.2 (0 + r.n) ≤ r.n; omega
  obtain ⟨fz2, hf1, hf2⟩ := hfr
  have hset : s.rw_.set i r = s.rw_ := set_same hr
  refine post_turn (v := .v (.string bs)) (q := r) hw hr hgr (.inr ⟨hz, hx, bs, hbs, h1.1, .inr ⟨g, cap, cur, fz2, hv, Nat.zero_le _, hf1, by rw [Nat.mul_one]; exact hf2, hncap, hcm, by rw [Nat.mul_one]; exact hcs, by rw [Nat.mul_one]; exact hct⟩⟩) (.inl rfl) trivial ?_
  rw [hset]
  exact hk bs
end Go.Se
