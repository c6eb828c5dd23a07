/- The evaluator is sound: rows of the call's own. -/
import Derived.Test.YtepfbdfbfimefaaDoorSi
import Derived.Test.YtepfbdfbfimefaaDoorSr
import Derived.Laws.MakeOwn
import Derived.Laws.BytesString
set_option linter.unusedSimpArgs false
set_option linter.unusedVariables false
namespace Go.Se
open Go

section
variable {C : Cx} {E : En} {s : St} {ρ : Nat → Nat} {a : Act} {w : World}

/-- Rows have turned, blocks of the call's own are no more told of. -/
theorem rows_sound (hs : SRel C E s ρ a w) {w' : World} {k : Option Nat} (hg : w.grownBy w' k) (hk : ∀ g, k = some g → E.w.heap.size ≤ g ∨ E.own g)
    {hp' : List (Nat × HB)} {rs' : List Row} (hsub : ∀ l b, find hp' l = some b → find s.hp l = some b) (hkl : ∀ l b, find hp' l = some b → some (ρ l) ≠ k)
    (hR : ∀ b o, s.R b = some o → some b ≠ k) (hrow : ∀ r ∈ rs', RowOk w' r)
    (hdis : ∀ r ∈ rs', ∀ g, r.blk = some g → s.R g = none ∧ ∀ l b, find hp' l = some b → ρ l ≠ g)
    (hpair : rs'.Pairwise fun r r' => ∀ g, r.blk = some g → r'.blk ≠ some g) (hrn : ∀ r ∈ rs', ∀ g, r.blk = some g → E.w.heap.size ≤ g ∨ E.own g) :
    SRel C E { s with hp := hp', rw_ := rs' } ρ a w' := by
  refine ⟨hs.fr, hs.sz, hs.df, ⟨?_, hs.hr.inj, ?_, ?_, ?_, ?_, hrow, hdis, hpair⟩, hs.ag, hs.nx, ?_, hs.nw, hs.rle, hs.rfr, hrn⟩
  · intro l b hf
    have h1 := hsub l b hf
    rw [hg.block _ (hs.hr.lt l (hs.hr.wf l b h1).1) (hkl l b hf)]
    exact hs.hr.blk l b h1
  · intro l hl; exact Nat.lt_of_lt_of_le (hs.hr.lt l hl) hg.size
  · intro b o hb
    have h1 := hs.hr.ro b o hb
    have hlt : b < w.heap.size := by
      rcases Nat.lt_or_ge b w.heap.size with h2 | h2
      · exact h2
      · rw [Array.getElem?_eq_none h2] at h1; cases h1
    rw [hg.block b hlt (hR b o hb)]
    exact h1
  · intro l b hf; exact hs.hr.dis l b (hsub l b hf)
  · intro l b hf; exact hs.hr.wf l b (hsub l b hf)
  · refine hs.kp.trans (S' := fun x => k = some x) ⟨hg.os, hg.tape, hg.output, hg.size, fun i hi hn => hg.block i hi fun h => hn h.symm⟩ fun x hx he => ?_
    rcases hk x he with h | h
    · omega
    · exact h

theorem label_own (hs : SRel C E s ρ a w) {l : Nat} (hl : l < s.nx) : E.w.heap.size ≤ ρ l ∨ E.own (ρ l) := by
  rcases Nat.lt_or_ge l E.n with h | h
  · exact .inr (.inl ⟨l, h, hs.ag l h⟩)
  · exact .inl (hs.nw l h hl)

theorem find_drop (l : Nat) : ∀ (hp : List (Nat × HB)) (k : Nat) (b : HB), find (dropHp hp l) k = some b → find hp k = some b ∧ k ≠ l
  | [], k, b, h => by simp [dropHp, find] at h
  | (j, c) :: r, k, b, h => by
    simp only [dropHp] at h
    by_cases hj : j = l
    · subst hj
      have : Nat.beq j j = true := Nat.beq_refl j
      simp only [this, cond_true] at h
      obtain ⟨h1, h2⟩ := find_drop j r k b h
      exact ⟨by rw [find_cons, if_neg (fun he => h2 he.symm)]; exact h1, h2⟩
    · have : Nat.beq j l = false := by
        cases hb : Nat.beq j l with
        | false => rfl
        | true => exact absurd (Nat.eq_of_beq_eq_true hb) hj
      simp only [this, cond_false, find_cons] at h ⊢
      by_cases hk : j = k
      · subst hk; simp only [if_true] at h ⊢; exact ⟨h, hj⟩
      · simp only [hk, if_false] at h ⊢; exact find_drop l r k b h

theorem rawL_val {ρ : Nat → Nat} {xs : List SV} {l : List Value} (h : rawL xs = some l) : valL ρ xs = l := rawL_some h

theorem pair_erase {p : Row → Row → Prop} (hsym : ∀ a b, p a b → p b a) : ∀ {l : List Row} {i : Nat} {r : Row}, l.Pairwise p → l[i]? = some r → ∀ q ∈ l.eraseIdx i, p q r
  | [], _, _, _, h, _, _ => by simp at h
  | x :: l, 0, r, hp, h, q, hq => by
    simp at h hq
    subst h
    exact hsym _ _ ((List.pairwise_cons.1 hp).1 q hq)
  | x :: l, i + 1, r, hp, h, q, hq => by
    simp only [List.getElem?_cons_succ] at h
    simp only [List.eraseIdx_cons_succ, List.mem_cons] at hq
    obtain ⟨h1, h2⟩ := List.pairwise_cons.1 hp
    rcases hq with rfl | hq
    · exact h1 r (List.mem_of_getElem? h)
    · exact pair_erase hsym h2 h q hq

/-- What is appended to is a row of the call's own. -/
theorem base_sound (hs : SRel C E s ρ a w) {e sz : Nat} {x : SV} {n : Nat} {xs : List Value} {hp' : List (Nat × HB)} {rs' : List Row} (h : BaseK s e sz x n xs hp' rs') (h4 : sz ≠ 4096) :
    w.ownsRowG 0 e sz (val ρ x) n xs ∧ (∀ l b, find hp' l = some b → find s.hp l = some b) ∧ rs'.Sublist s.rw_ ∧
      ∀ g, (val ρ x).ownBlock = some g → (E.w.heap.size ≤ g ∨ E.own g) ∧ s.R g = none ∧ g < w.heap.size ∧ (∀ l b, find hp' l = some b → ρ l ≠ g) ∧ ∀ q ∈ rs', q.blk ≠ some g := by
  cases h with
  | nil => exact ⟨World.ownsRowG_nil w 0 e sz, fun _ _ h => h, List.Sublist.refl _, fun g hg => by simp [val, Value.ownBlock] at hg⟩
  | row i r hr he hz =>
    have hm := List.mem_of_getElem? hr
    subst he hz
    refine ⟨(hs.hr.row r hm).own h4, fun _ _ h => h, List.eraseIdx_sublist _ _, fun g hg => ?_⟩
    obtain ⟨h1, h2⟩ := hs.hr.rdis r hm g hg
    refine ⟨hs.rn r hm g hg, h1, row_lt hs.hr hm hg, h2, fun q hq => ?_⟩
    have := pair_erase (fun a b hab g h1 h2 => hab g h2 h1) hs.hr.rpair hr q hq
    exact fun hqg => this g hqg hg
  | own l n b xs hb he hn hl h63 =>
    subst he
    have h1 := hs.hr.blk l b hb
    obtain ⟨h2, h3⟩ := hs.hr.wf l b hb
    rw [rawL_val hn] at h1
    refine ⟨⟨hl, .inr ⟨ρ l, n, xs.toArray, rfl, Nat.zero_le _, ⟨_, h1, un0 _⟩, Nat.le_refl _, by simp [maxLen]; omega, by simp [hl], by simp [← hl]⟩⟩,
      fun k c hk => (find_drop l _ k c hk).1, List.Sublist.refl _, fun g hg => ?_⟩
    obtain rfl : ρ l = g := by simpa [val, Value.ownBlock] using hg
    refine ⟨label_own hs h2, hs.hr.dis l b hb, hs.hr.lt l h2, fun k c hk he => ?_, fun q hq hqg => (hs.hr.rdis q hq _ hqg).2 l b hb rfl⟩
    obtain ⟨h4, h5⟩ := find_drop l _ k c hk
    exact h5 (hs.hr.inj k l (hs.hr.wf k c h4).1 h2 he)

theorem src_sound {P : Program} {hs : HRel s.R s.hp s.nx s.rw_ ρ w} {sz tx : Nat} (hk : (∃ e', P.underlying tx = some (.slice e')) ∨ P.underlying tx = some .string) {x : SV} {m : Nat} {news : List Value}
    (h : SrcK s sz x m news) : Src P sz tx (val ρ x) m news w := by
  cases h with
  | nil c => exact ⟨hk, fun _ => rfl, run_firstCells_none w sz 0 0 c, run_firstCells_none w.drew sz 0 0 c, by simp, by simp⟩
  | raw ad m c news hl hc h1 =>
    have hnews : ∀ j u, news[j]? = some u → w.cell? (ad.add j) = some u := fun j u hu => kcell_sound hs (hc j u hu)
    exact ⟨hk, fun _ => rfl, run_firstCells_some w sz m ad m c news hl hnews, run_firstCells_some w.drew sz m ad m c news hl (by simpa using hnews), hl, h1⟩
  | own l o m c b news hb hn hl h1 =>
    have hblk := hs.blk l b hb
    have hnews : ∀ j u, news[j]? = some u → w.cell? ((⟨ρ l, o, none⟩ : Addr).add j) = some u := fun j u hu => by
      rw [cell_add, cell_of hblk, ← rawL_val (ρ := ρ) hn] at *
      rw [valL_map, List.getElem?_map, List.getElem?_take] at hu
      have hj : j < m * sz := by
        rcases Nat.lt_or_ge j (m * sz) with h | h
        · exact h
        · rw [if_neg (by omega)] at hu; simp at hu
      rw [if_pos hj, List.getElem?_drop] at hu
      simpa [valL_map] using hu
    exact ⟨hk, fun _ => rfl, run_firstCells_some w sz m ⟨ρ l, o, none⟩ m c news hl hnews, run_firstCells_some w.drew sz m ⟨ρ l, o, none⟩ m c news hl (by simpa using hnews), hl, h1⟩
  | str x h1 =>
    subst h1
    exact ⟨hk, fun _ => rfl, firstCells_string x w, firstCells_string x w.drew, by rw [byteCells_length, Nat.mul_one], fun u hu => by
      obtain ⟨_, _, rfl⟩ := List.mem_map.1 hu
      rfl⟩

theorem row_of_owns {e sz n : Nat} {v : Value} {xs : List Value} (h : w.ownsRowG 0 e sz v n xs) :
    ∃ ad cap, v = .slice ad n cap ∧ (n ≠ 0 → ad.isSome = true) := by
  rcases h.2 with ⟨rfl, rfl⟩ | ⟨g, cap, cur, rfl, _⟩
  · exact ⟨none, 0, rfl, fun h => absurd rfl h⟩
  · exact ⟨_, cap, rfl, fun _ => rfl⟩

theorem append_sound (hT : TysOk C.P C.ty) (hs : SRel C E s ρ a w) {e t1 t2 : Nat} {t : Ty} {x y : SV} {K : List (Nat × HB) → List Row → SV → Prop} (he : C.ty e = some t)
    (hz : (zeroCells t).length = t.size) (h1 : C.P.underlying t1 = some (.slice e)) (h2 : (∃ e', C.P.underlying t2 = some (.slice e')) ∨ C.P.underlying t2 = some .string)
    (h : AppP s e t.size t.bytes x y K) (h4 : t.size ≠ 4096) :
    ∃ hp' rs' v w', (∀ ty, (Builtin.append_ #[t1, t2] ty #[val ρ x, val ρ y]).run C.P w = .ok v w') ∧ SRel C E { s with hp := hp', rw_ := rs' } ρ a w' ∧ K hp' rs' (.v v) := by
  obtain ⟨n, xs, hp', rs0, rs', m, news, hb, hdrop, hsrc, h63, hby, hK⟩ := h.go
  obtain ⟨i, d, hi, hd, hzz, hsz, htd, hg⟩ := tyOf_parts (hT _ _ he)
  have hbytes : i.bytes = t.bytes := by
    have := hT _ _ he
    unfold tyOf at this
    rw [hi, hd] at this
    simp only [hzz] at this
    split at this
    · simp only [Option.some.injEq] at this; rw [← this]
    · simp at this
  obtain ⟨b1, b2, b3, b4⟩ := base_sound hs hb h4
  have b3 := hdrop.trans b3
  have b4 : ∀ g, (val ρ x).ownBlock = some g → (E.w.heap.size ≤ g ∨ E.own g) ∧ s.R g = none ∧ g < w.heap.size ∧ (∀ l b, find hp' l = some b → ρ l ≠ g) ∧ ∀ q ∈ rs', q.blk ≠ some g :=
    fun g hg => let ⟨c1, c2, c3, c4, c5⟩ := b4 g hg; ⟨c1, c2, c3, c4, fun q hq => c5 q (hdrop.subset hq)⟩
  have hsrc' := src_sound (P := C.P) (hs := hs.hr) (tx := t2) h2 hsrc
  have hzs : t.zero.cells.size = i.size := by
    obtain ⟨hz1, _⟩ := zero_cells hT he ρ
    rw [hz1]; simp [valL_map, hz, hsz]
  rw [← hsz] at b1 hsrc'
  have hrun := fun ty => run_append (P := C.P) (w := w) (ty := ty) h1 hi hzz hzs b1 hsrc' (by simp only [maxLen]; omega) (by rw [hbytes]; exact hby)
  obtain ⟨v', w', hr, r1, r2, r3, r4⟩ := hrun 0
  rw [hsz] at r1
  obtain ⟨ad, cap, rfl, hsome⟩ := row_of_owns r1
  have hnew : ∀ g, (Value.slice ad (n + m) cap).ownBlock = some g → (val ρ x).ownBlock = some g ∨ g = w.heap.size := fun g hg => by
    rcases r3 with h | h
    · exact .inl (by rw [← h]; exact hg)
    · right; rw [h] at hg; simpa using hg.symm
  have hown : ∀ g, (Value.slice ad (n + m) cap).ownBlock = some g → (E.w.heap.size ≤ g ∨ E.own g) ∧ s.R g = none ∧ (∀ l b, find hp' l = some b → ρ l ≠ g) ∧ ∀ q ∈ rs', q.blk ≠ some g := fun g hg => by
    rcases hnew g hg with h | h
    · obtain ⟨c1, c2, _, c3, c4⟩ := b4 g h
      exact ⟨c1, c2, c3, c4⟩
    · subst h
      refine ⟨.inl hs.kp.size, ?_, fun l b hl he => ?_, fun q hq hqg => ?_⟩
      · cases hR : s.R w.heap.size with
        | none => rfl
        | some o => have := hs.hr.ro _ _ hR; simp at this
      · have := hs.hr.lt l (hs.hr.wf l b (b2 l b hl)).1; omega
      · have := row_lt hs.hr (b3.subset hq) hqg; omega
  refine ⟨hp', ⟨ad, n + m, cap, e, t.size, xs ++ news⟩ :: rs', _, w', fun ty => ?_, ?_, hK ad (n + m) cap _ rfl rfl hsome⟩
  · exact hr
  · refine rows_sound hs r2 (fun g hg => (b4 g hg).1) b2 (fun l b hl he => ?_) (fun b o hb he => ?_) ?_ ?_ ?_ ?_
    · exact (b4 (ρ l) he.symm).2.2.2.1 l b hl rfl
    · have := (b4 b he.symm).2.1; rw [hb] at this; cases this
    · intro r hr
      rcases List.mem_cons.1 hr with rfl | hr
      · exact .inl ⟨h4, r1⟩
      · refine (hs.hr.row r (b3.subset hr)).kept r2 ?_
        cases hv : (val ρ x).ownBlock with
        | none =>
          cases hb : r.v.ownBlock with
          | none => exact .inl rfl
          | some g => exact .inr (by simp)
        | some g => exact .inr ((b4 g hv).2.2.2.2 r hr)
    · intro r hr g hg
      rcases List.mem_cons.1 hr with rfl | hr
      · exact ⟨(hown g hg).2.1, (hown g hg).2.2.1⟩
      · obtain ⟨c1, c2⟩ := hs.hr.rdis r (b3.subset hr) g hg
        exact ⟨c1, fun l b hl => c2 l b (b2 l b hl)⟩
    · refine List.pairwise_cons.2 ⟨fun q hq g hg => (hown g hg).2.2.2 q hq, hs.hr.rpair.sublist b3⟩
    · intro r hr g hg
      rcases List.mem_cons.1 hr with rfl | hr
      · exact (hown g hg).1
      · exact hs.rn r (b3.subset hr) g hg

theorem set_same {rs : List Row} {i : Nat} {r : Row} (h : rs[i]? = some r) : rs.set i r = rs := by
  have hlt : i < rs.length := by
    rcases Nat.lt_or_ge i rs.length with h1 | h1
    · exact h1
    · rw [List.getElem?_eq_none h1] at h; cases h
  apply List.ext_getElem?
  intro j
  rw [List.getElem?_set]
  by_cases hj : i = j
  · subst hj
    rw [if_pos rfl, if_pos hlt, h]
  · rw [if_neg hj]

theorem run_storeVar0 {P : Program} {t : Nat} {y : Ty} (hy : tyOf P t = some y) {ad : Addr} {w : World} {v : Value} (hv : v.cells = #[]) (hn : 0 = y.size) : (storeVar t ad v).run P w = .ok () w := by
  obtain ⟨i, d, hi, hd, hz, hs, ht, hg⟩ := tyOf_parts hy
  simp only [storeVar, bind]
  rw [run_bind_pure (run_size hi)]
  simp only [hv, hs, ← hn]
  rfl

/-- One row is written in place. -/
theorem row_write (hs : SRel C E s ρ a w) {i : Nat} {r : Row} (hr : s.rw_[i]? = some r) (h4 : r.sz ≠ 4096) (hrow : w.ownsRowG 0 r.e r.sz r.v r.n r.xs) {ad : Addr} (ha : r.a = some ad) {cur : Array Value} {fz : Nat × Nat} (hcur : w.heap[ad.block]? = some (.cells cur r.e fz)) (hun : UnF cur.size fz)
    (hcs : cur.size = r.cap * r.sz) (htk : cur.toList.take (r.n * r.sz) = r.xs) {j : Nat} {vs : List Value} (hj : j + vs.length ≤ r.xs.length)
    {w' : World} (hw : w'.heap[ad.block]? = some (.cells (putA cur.toList j vs).toArray r.e fz)) (ho : OneBlk ad.block w w') :
    SRel C E { s with rw_ := s.rw_.set i { r with xs := r.xs.take j ++ vs ++ r.xs.drop (j + vs.length) } } ρ a w' := by
  have hm := List.mem_of_getElem? hr
  obtain ⟨h1, cur', c1, c2, c3, c4, c5⟩ := row_addr hrow ha
  have hlen := hrow.1
  have hxl : (r.xs.take j ++ vs ++ r.xs.drop (j + vs.length)).length = r.n * r.sz := by simp; omega
  have hblk := row_blk ha
  have hput : ∀ (vs c : List Value) (j : Nat), j + vs.length ≤ c.length → putA c j vs = c.take j ++ vs ++ c.drop (j + vs.length) := by
    intro vs
    induction vs with
    | nil => intro c j _; simp [putA]
    | cons v vs ih =>
      intro c j h
      simp only [List.length_cons] at h
      rw [putA, ih _ _ (by simp; omega)]
      have e1 : (c.set j v).take (j + 1) = c.take j ++ [v] := by
        rw [List.take_add_one]
        simp [List.take_set, show j < c.length by omega]
        rw [List.set_eq_of_length_le (by simp; omega)]
      have e2 : (c.set j v).drop (j + 1 + vs.length) = c.drop (j + (vs.length + 1)) := by
        rw [List.drop_set, if_pos (by omega), show j + 1 + vs.length = j + (vs.length + 1) by omega]
      rw [e1, e2]
      simp
  have hne : ∀ q ∈ s.rw_.eraseIdx i, q.blk ≠ some ad.block := fun q hq hqg =>
    pair_erase (fun a b hab g h1 h2 => hab g h2 h1) hs.hr.rpair hr q hq _ hqg hblk
  have hmem : ∀ q ∈ s.rw_.set i { r with xs := r.xs.take j ++ vs ++ r.xs.drop (j + vs.length) }, q = { r with xs := r.xs.take j ++ vs ++ r.xs.drop (j + vs.length) } ∨ q ∈ s.rw_.eraseIdx i := by
    have : ∀ (l : List Row) (i : Nat) (x q : Row), q ∈ l.set i x → q = x ∨ q ∈ l.eraseIdx i := by
      intro l
      induction l with
      | nil => intro i x q h; simp at h
      | cons y l ih =>
        intro i x q h
        cases i with
        | zero => simp at h ⊢; exact h
        | succ i =>
          simp only [List.set_cons_succ, List.mem_cons] at h
          simp only [List.eraseIdx_cons_succ, List.mem_cons]
          rcases h with h | h
          · exact .inr (.inl h)
          · rcases ih i x q h with h | h
            · exact .inl h
            · exact .inr (.inr h)
    exact fun q hq => this _ _ _ _ hq
  have hsubs : ∀ q ∈ s.rw_.eraseIdx i, q ∈ s.rw_ := fun q hq => (List.eraseIdx_sublist _ _).subset hq
  have hpr : (s.rw_.set i { r with xs := r.xs.take j ++ vs ++ r.xs.drop (j + vs.length) }).Pairwise fun r r' => ∀ g, r.blk = some g → r'.blk ≠ some g := by
    have : ∀ (l : List Row) (i : Nat) (x r : Row), l[i]? = some r → r.blk = x.blk → (l.Pairwise fun r r' => ∀ g, r.blk = some g → r'.blk ≠ some g) → (l.set i x).Pairwise fun r r' => ∀ g, r.blk = some g → r'.blk ≠ some g := by
      intro l
      induction l with
      | nil => intro i x r h; simp at h
      | cons y l ih =>
        intro i x r h hx hp
        obtain ⟨p1, p2⟩ := List.pairwise_cons.1 hp
        cases i with
        | zero =>
          simp at h; subst h
          simp only [List.set_cons_zero]
          exact List.pairwise_cons.2 ⟨fun q hq g hg => p1 q hq g (by rw [hx]; exact hg), p2⟩
        | succ i =>
          simp only [List.getElem?_cons_succ] at h
          simp only [List.set_cons_succ]
          refine List.pairwise_cons.2 ⟨fun q hq g hg => ?_, ih i x r h hx p2⟩
          rcases List.mem_or_eq_of_mem_set hq with hq | rfl
          · exact p1 q hq g hg
          · rw [← hx]; exact p1 r (List.mem_of_getElem? h) g hg
    exact this _ _ _ r hr rfl hs.hr.rpair
  refine rows_sound (hp' := s.hp) hs ho.grown (fun g hg => by simp at hg; subst hg; exact hs.rn r hm _ hblk) (fun _ _ h => h) (fun l b hl he => ?_) (fun b o hb he => ?_) ?_ ?_ hpr ?_
  · simp at he; exact (hs.hr.rdis r hm _ hblk).2 l b hl he
  · simp at he; subst he; rw [(hs.hr.rdis r hm _ hblk).1] at hb; cases hb
  · intro q hq
    rcases hmem q hq with rfl | hq
    · refine .inl ⟨h4, hxl, .inr ⟨ad.block, r.cap, _, by simp only [Row.v, ha]; rw [← h1], Nat.zero_le _, ⟨fz, hw, by simpa [putA_len] using hun⟩, c2, c3, by simp [putA_len, hcs], ?_⟩⟩
      show (putA cur.toList j vs).take (r.n * r.sz) = _
      have hle : r.n * r.sz ≤ cur.toList.length := by
        simp [hcs]; exact Nat.mul_le_mul_right _ c2
      have hlx : r.xs.length = r.n * r.sz := hlen
      rw [hput vs cur.toList j (by omega), ← htk]
      have hj' : j + vs.length ≤ r.n * r.sz := by omega
      rw [List.take_append, List.take_append, List.take_take, List.take_take]
      simp only [List.length_append, List.length_take, Array.length_toList]
      rw [Nat.min_eq_left (a := j) (b := cur.size) (by simp at hle; omega), Nat.min_eq_right (by omega), Nat.min_eq_left (a := j) (by omega)]
      rw [List.take_of_length_le (l := vs) (by omega), List.drop_take]
    · refine (hs.hr.row q (hsubs q hq)).kept ho.grown ?_
      cases hb : q.v.ownBlock with
      | none => exact .inl rfl
      | some g => exact .inr (by rw [← hb]; exact hne q hq)
  · intro q hq g hg
    rcases hmem q hq with rfl | hq
    · exact hs.hr.rdis r hm g hg
    · exact hs.hr.rdis q (hsubs q hq) g hg
  · intro q hq g hg
    rcases hmem q hq with rfl | hq
    · exact hs.rn r hm g hg
    · exact hs.rn q (hsubs q hq) g hg

theorem rawstore_sound (hT : TysOk C.P C.ty) (hs : SRel C E s ρ a w) {T : Nat} {t : Ty} {v : Value} {ad : Addr} {vs : List Value} {K : List Row → Prop} (ht : C.ty T = some t)
    (hv : v.cells = vs.toArray) (hn : vs.length = t.size) (h1 : ∀ x ∈ vs, oneV x = true) (h : StoreP s ad vs K) :
    ∃ rs' w', (Instr.storeAt T (.pointer (some ad)) v).run C.P w = .ok () w' ∧ SRel C E { s with rw_ := rs' } ρ a w' ∧ K rs' := by
  obtain ⟨i, r, b, j, hr, ha, rfl, hj, hK⟩ := h.go
  have hm := List.mem_of_getElem? hr
  rcases hs.hr.row r hm with ⟨h4, hown⟩ | hfrz
  case inr =>
    have hx := hfrz.elim (fun f => f.2.1) (fun f => f.2.1)
    rw [hx, List.length_nil] at hj
    have hv0 : vs = [] := List.eq_nil_of_length_eq_zero (by omega)
    have hj0 : j = 0 := by omega
    subst hv0 hj0
    refine ⟨s.rw_, w, ?_, hs, ?_⟩
    · simp only [Instr.storeAt, bind]
      rw [run_bind_pure (run_sure _)]
      exact run_storeVar0 (hT _ _ ht) hv hn
    · have h9 := hK _ rfl
      have e9 : ({ r with xs := r.xs.take 0 ++ [] ++ r.xs.drop (0 + ([] : List Value).length) } : Row) = r := by
        obtain ⟨ra, rn, rc, re, rz, rx⟩ := r
        simp only at hx
        subst hx
        rfl
      rw [e9, set_same hr] at h9
      exact h9
  obtain ⟨e1, cur, ⟨fz, c1, hun⟩, c2, c3, c4, c5⟩ := row_addr hown ha
  have hlen : r.xs.length = r.n * r.sz := hown.1
  have hle : r.n * r.sz ≤ cur.toList.length := by simp [c4]; exact Nat.mul_le_mul_right _ c2
  obtain ⟨w', hrun, hw, ho⟩ := run_storeVar (P := C.P) (hT _ _ ht) (off := j) (c := cur.toList) (v := v) (vs := vs) (by simpa using c1) (by simpa using hun) hv hn (by omega) h1
  refine ⟨_, w', ?_, row_write hs hr h4 hown ha c1 hun c4 c5 hj hw ho, hK _ rfl⟩
  simp only [Instr.storeAt, bind]
  rw [run_bind_pure (run_sure _), e1, cell_add]
  simpa using hrun

theorem flat_get (z : List Value) (hz : z.length ≠ 0) : ∀ (n j : Nat), j < n * z.length → ((List.replicate n z).flatten)[j]? = z[j % z.length]?
  | 0, j, h => by omega
  | n + 1, j, h => by
    rw [List.replicate_succ, List.flatten_cons, List.getElem?_append]
    by_cases hj : j < z.length
    · rw [if_pos hj, Nat.mod_eq_of_lt hj]
    · rw [if_neg hj, flat_get z hz n (j - z.length) (by rw [Nat.succ_mul] at h; omega)]
      rw [Nat.mod_eq_sub_mod (by omega : j ≥ z.length)]

theorem made_take {z : List Value} {sz n c : Nat} (hz : z.length = sz) (hn : n ≤ c) : (madeCells z.toArray (c * sz)).toList.take (n * sz) = (List.replicate n z).flatten := by
  subst hz
  by_cases h0 : z.length = 0
  · have : z = [] := List.eq_nil_of_length_eq_zero h0
    subst this
    simp
  · apply List.ext_getElem?
    intro j
    rw [List.getElem?_take]
    have hle : n * z.length ≤ c * z.length := Nat.mul_le_mul_right _ hn
    by_cases hj : j < n * z.length
    · rw [if_pos hj, flat_get z h0 n j hj]
      have hlt := Nat.mod_lt j (Nat.pos_of_ne_zero h0)
      simp only [madeCells, Array.getElem?_toList, Array.getElem?_map, Array.getElem?_range]
      rw [if_pos (by omega)]
      simp [hlt]
    · rw [if_neg hj, List.getElem?_eq_none (by simp; omega)]

theorem make_sound (hT : TysOk C.P C.ty) (hs : SRel C E s ρ a w) {e T : Nat} {t : Ty} {len cap : Int} {k1 k2 : IntKind} {z : List Value} {K : List Row → SV → Prop} (he : C.ty e = some t)
    (hz : rawL (zeroCells t) = some z) (hzl : z.length = t.size) (h1 : C.P.underlying T = some (.slice e)) (h : MakeP s e t.size t.bytes len cap z K) (h4 : t.size ≠ 4096) :
    ∃ rs' v w', (Instr.makeSlice T (.int k1 len) (.int k2 cap)).run C.P w = .ok v w' ∧ SRel C E { s with rw_ := rs' } ρ a w' ∧ K rs' (.v v) := by
  obtain ⟨i, d, hi, hd, hzz, hsz, htd, hg⟩ := tyOf_parts (hT _ _ he)
  have hbytes : i.bytes = t.bytes := by
    have := hT _ _ he
    unfold tyOf at this
    rw [hi, hd] at this
    simp only [hzz] at this
    split at this
    · simp only [Option.some.injEq] at this; rw [← this]
    · simp at this
  obtain ⟨hz1, _⟩ := zero_cells hT he ρ
  rw [rawL_val hz] at hz1
  have hlo := h.lo
  have hhi := h.hi
  have hrun := run_make (P := C.P) (w := w) T e i t.zero h1 hi hzz k1 k2 len cap h.lo h.hi (by rw [hbytes, Int.mul_comm]; have := h.mx; omega) (by have := h.m2; omega)
  have hg : w.grownBy (w.alloc (.cells (madeCells t.zero.cells (cap.toNat * i.size)) e)) none := ⟨rfl, rfl, rfl, by simp, fun k hk _ => heap_alloc_old w _ hk⟩
  have hrow : (w.alloc (.cells (madeCells t.zero.cells (cap.toNat * i.size)) e)).ownsRowG 0 e t.size (.slice (some ⟨w.heap.size, 0, none⟩) len.toNat cap.toNat) len.toNat ((List.replicate len.toNat z).flatten) := by
    refine ⟨by simp [hzl], .inr ⟨w.heap.size, cap.toNat, _, rfl, Nat.zero_le _, ⟨_, heap_alloc_new w _, un0 _⟩, by omega, by have := h.m2; simp [maxLen]; omega, by simp [size_madeCells, hsz], ?_⟩⟩
    rw [hz1, hsz]
    exact made_take hzl (by omega)
  have hRn : s.R w.heap.size = none := by
    cases hR : s.R w.heap.size with
    | none => rfl
    | some o => have := hs.hr.ro _ _ hR; simp at this
  refine ⟨_, _, _, hrun, ?_, h.go ⟨w.heap.size, 0, none⟩ len.toNat cap.toNat _ (by omega) (by omega) rfl⟩
  refine rows_sound (hp' := s.hp) hs hg (fun g hg => by cases hg) (fun _ _ h => h) (fun l b hl he => by cases he) (fun b o hb he => by cases he) ?_ ?_ ?_ ?_
  · intro r hr
    rcases List.mem_cons.1 hr with rfl | hr
    · exact .inl ⟨h4, hrow⟩
    · refine (hs.hr.row r hr).kept hg ?_
      cases hb : r.v.ownBlock with
      | none => exact .inl rfl
      | some g => exact .inr (by simp)
  · intro r hr g hg
    rcases List.mem_cons.1 hr with rfl | hr
    · obtain rfl : w.heap.size = g := by simpa [Row.blk, Row.v, Value.ownBlock] using hg
      refine ⟨hRn, fun l b hl he => ?_⟩
      have := hs.hr.lt l (hs.hr.wf l b hl).1; omega
    · exact hs.hr.rdis r hr g hg
  · refine List.pairwise_cons.2 ⟨fun q hq g hg hqg => ?_, hs.hr.rpair⟩
    obtain rfl : w.heap.size = g := by simpa [Row.blk, Row.v, Value.ownBlock] using hg
    have := row_lt hs.hr hq hqg; omega
  · intro r hr g hg
    rcases List.mem_cons.1 hr with rfl | hr
    · obtain rfl : w.heap.size = g := by simpa [Row.blk, Row.v, Value.ownBlock] using hg
      exact .inl hs.kp.size
    · exact hs.rn r hr g hg

/-- A new block as a row. -/
theorem rowa_sound (hs : SRel C E s ρ a w) {T : Nat} {cs : List SV} {K : List Row → Addr → Prop} (h : RowA s T cs K) :
    ∃ rs', SRel C E { s with rw_ := rs' } ρ a { w with heap := w.heap.push (.cells (valL ρ cs).toArray T) } ∧ K rs' ⟨w.heap.size, 0, none⟩ := by
  obtain ⟨vs, hv, hm, hK⟩ := h.go
  rw [rawL_val hv]
  have hg : w.grownBy { w with heap := w.heap.push (.cells vs.toArray T) } none := ⟨rfl, rfl, rfl, by simp, fun k hk _ => by simp [Array.getElem?_push, Nat.ne_of_lt hk]⟩
  have hrow : World.ownsRowG { w with heap := w.heap.push (.cells vs.toArray T) } 0 T 1 (.slice (some ⟨w.heap.size, 0, none⟩) vs.length vs.length) vs.length vs := by
    refine ⟨by simp, .inr ⟨w.heap.size, vs.length, vs.toArray, rfl, Nat.zero_le _, ⟨(0, 0), by simp, un0 _⟩, Nat.le_refl _, by simp [maxLen]; omega, by simp, by simp⟩⟩
  have hRn : s.R w.heap.size = none := by
    cases hR : s.R w.heap.size with
    | none => rfl
    | some o => have := hs.hr.ro _ _ hR; simp at this
  refine ⟨_, ?_, hK ⟨w.heap.size, 0, none⟩ vs.length vs rfl rfl⟩
  refine rows_sound (hp' := s.hp) hs hg (fun g hg => by cases hg) (fun _ _ h => h) (fun l b hl he => by cases he) (fun b o hb he => by cases he) ?_ ?_ ?_ ?_
  · intro r hr
    rcases List.mem_cons.1 hr with rfl | hr
    · exact .inl ⟨(by decide : (1 : Nat) ≠ 4096), hrow⟩
    · refine (hs.hr.row r hr).kept hg ?_
      cases hb : r.v.ownBlock with
      | none => exact .inl rfl
      | some g => exact .inr (by simp)
  · intro r hr g hg
    rcases List.mem_cons.1 hr with rfl | hr
    · obtain rfl : w.heap.size = g := by simpa [Row.blk, Row.v, Value.ownBlock] using hg
      refine ⟨hRn, fun l b hl he => ?_⟩
      have := hs.hr.lt l (hs.hr.wf l b hl).1; omega
    · exact hs.hr.rdis r hr g hg
  · refine List.pairwise_cons.2 ⟨fun q hq g hg hqg => ?_, hs.hr.rpair⟩
    obtain rfl : w.heap.size = g := by simpa [Row.blk, Row.v, Value.ownBlock] using hg
    have := row_lt hs.hr hq hqg; omega
  · intro r hr g hg
    rcases List.mem_cons.1 hr with rfl | hr
    · obtain rfl : w.heap.size = g := by simpa [Row.blk, Row.v, Value.ownBlock] using hg
      exact .inl hs.kp.size
    · exact hs.rn r hr g hg

/-- A block that is told of as read-only memory at once. -/
theorem frz_sound (hs : SRel C E s ρ a w) {T : Nat} {cs : List SV} {K : RO → Nat → Prop} (h : FrzP s T cs K) :
    ∃ R' : RO, SRel C E { s with R := R' } ρ a { w with heap := w.heap.push (.cells (valL ρ cs).toArray T) } ∧ K R' w.heap.size ∧ s.R.le R' := by
  obtain ⟨vs, hv, hK⟩ := h.go
  have hro : s.R w.heap.size = none := by
    cases h : s.R w.heap.size with
    | none => rfl
    | some o => have := hs.hr.ro _ _ h; simp at this
  rw [rawL_val hv]
  let R' : RO := fun b => if b = w.heap.size then some (.cells vs.toArray T (0, 0)) else s.R b
  have hle : s.R.le R' := fun b o hb => by
    show (if b = w.heap.size then _ else s.R b) = some o
    rw [if_neg (fun he => by rw [he, hro] at hb; cases hb)]
    exact hb
  have hold : ∀ b, b < w.heap.size → R' b = s.R b := fun b hb => by
    show (if b = w.heap.size then _ else s.R b) = s.R b
    rw [if_neg (by omega)]
  have hg : w.grownBy (w.alloc (.cells vs.toArray T)) none := ⟨rfl, rfl, rfl, by simp, fun k hk _ => heap_alloc_old w _ hk⟩
  refine ⟨R', ⟨hs.fr, hs.sz, hs.df, ⟨?_, hs.hr.inj, ?_, ?_, ?_, hs.hr.wf, ?_, ?_, hs.hr.rpair⟩, hs.ag, hs.nx, ?_, hs.nw, fun b o hb => hle b o (hs.rle b o hb), ?_, hs.rn⟩, hK R' w.heap.size hle (by show (if _ then _ else _) = _; rw [if_pos rfl]), hle⟩
  · intro l b hf
    have := hs.hr.lt l (hs.hr.wf l b hf).1
    show (w.heap.push _)[ρ l]? = _
    rw [Array.getElem?_push, if_neg (by omega)]
    exact hs.hr.blk l b hf
  · intro l hl
    have := hs.hr.lt l hl
    simp only [Array.size_push]; omega
  · intro b o hb
    have hb : R' b = some o := hb
    show (w.heap.push _)[b]? = _
    by_cases he : b = w.heap.size
    · subst he
      have : R' w.heap.size = some (.cells vs.toArray T (0, 0)) := by show (if _ then _ else _) = _; rw [if_pos rfl]
      rw [this] at hb
      rw [Array.getElem?_push, if_pos rfl, hb]
    · have : R' b = s.R b := by show (if b = w.heap.size then _ else s.R b) = s.R b; rw [if_neg he]
      rw [this] at hb
      have h1 := hs.hr.ro b o hb
      rw [Array.getElem?_push, if_neg he]
      exact h1
  · intro l b hf
    show R' (ρ l) = none
    rw [hold _ (hs.hr.lt l (hs.hr.wf l b hf).1)]
    exact hs.hr.dis l b hf
  · intro r hr
    refine (hs.hr.row r hr).kept hg ?_
    cases hb : r.v.ownBlock with
    | none => exact .inl rfl
    | some g => exact .inr (by simp)
  · intro r hr g hgg
    obtain ⟨h1, h2⟩ := hs.hr.rdis r hr g hgg
    exact ⟨by rw [show (({ s with R := R' } : St).R) = R' from rfl, hold g (row_lt hs.hr hr hgg)]; exact h1, h2⟩
  · refine hs.kp.trans (S' := fun _ => False) ⟨rfl, rfl, rfl, by simp, fun k hk _ => ?_⟩ (fun _ _ h => h.elim)
    show (w.heap.push _)[k]? = _
    rw [Array.getElem?_push, if_neg (by omega)]
  · intro b o hb
    have hb : R' b = some o := hb
    by_cases he : b = w.heap.size
    · exact .inr (.inl (by rw [he]; exact hs.kp.size))
    · have : R' b = s.R b := by show (if b = w.heap.size then _ else s.R b) = s.R b; rw [if_neg he]
      rw [this] at hb
      exact hs.rfr b o hb

theorem oneV_one {v : Value} (h : v.oneCell' = true) : oneV v = true := by cases v <;> simp_all [Value.oneCell', oneV]

theorem copy_sound (hT : TysOk C.P C.ty) (hs : SRel C E s ρ a w) {e t1 t2 : Nat} {t : Ty} {ao : Option Addr} {len cap : Nat} {y : SV} {K : List Row → Nat → Prop} (he : C.ty e = some t)
    (h1 : C.P.underlying t1 = some (.slice e)) (h : CopyP s t.size ao len y K) :
    ∃ rs' n w', (∀ ty, (Builtin.copy_ #[t1, t2] ty #[.slice ao len cap, val ρ y]).run C.P w = .ok (goInt (n : Nat)) w') ∧ SRel C E { s with rw_ := rs' } ρ a w' ∧ K rs' n := by
  obtain ⟨m, news, hsrc, hK⟩ := h.go
  obtain ⟨i, d, hi, hd, hzz, hsz, htd, hg⟩ := tyOf_parts (hT _ _ he)
  -- the source's first cells
  have hfirst : ∀ (n : Nat), n ≤ m → (Builtin.firstCells t.size n (val ρ y)).run C.P w = .ok (news.take (n * t.size)).toArray w := by
    intro n hn
    have key : ∀ (ad : Addr) (c : Nat), (∀ j u, news[j]? = some u → w.cell? (ad.add j) = some u) → news.length = m * t.size →
        (Builtin.firstCells t.size n (.slice (some ad) m c)).run C.P w = .ok (news.take (n * t.size)).toArray w := fun ad c hc hl => by
      have hle : n * t.size ≤ m * t.size := Nat.mul_le_mul_right _ hn
      exact run_firstCells_some w t.size n ad m c _ (by rw [List.length_take, hl]; omega) (fun j u hu => by
        rw [List.getElem?_take] at hu
        split at hu
        · exact hc j u hu
        · cases hu)
    cases hsrc with
    | nil c =>
      obtain rfl : n = 0 := by omega
      simp only [val]
      simpa using run_firstCells_none (P := C.P) w t.size 0 0 c
    | raw ad m c news hl hc h1 => exact key ad c (fun j u hu => kcell_sound hs.hr (hc j u hu)) hl
    | own l o m c b news hb hn2 hl h1 =>
      have hblk := hs.hr.blk l b hb
      refine key ⟨ρ l, o, none⟩ c (fun j u hu => ?_) hl
      rw [cell_add, cell_of hblk]
      rw [← rawL_val (ρ := ρ) hn2] at hu
      rw [valL_map, List.getElem?_map, List.getElem?_take] at hu
      have hj : j < m * t.size := by
        rcases Nat.lt_or_ge j (m * t.size) with h | h
        · exact h
        · rw [if_neg (by omega)] at hu; simp at hu
      rw [if_pos hj, List.getElem?_drop] at hu
      simpa [valL_map] using hu
    | str x h1 =>
      rw [h1]
      simp only [val, Builtin.firstCells, Sem.run_pure, byteCells, Nat.mul_one]
      congr 1
      apply Array.ext'
      simp [List.map_take, ByteArray.extract, ByteArray.copySlice]
  have hlen : (Builtin.lenOf (val ρ y)).run C.P w = .ok m w := by cases hsrc <;> rfl
  have hone : ∀ v ∈ news, v.oneCell' = true := by
    cases hsrc with
    | nil c => simp
    | raw ad m c news hl hc h1 => exact h1
    | own l o m c b news hb hn2 hl h1 => exact h1
    | str x h1 =>
      intro u hu
      obtain ⟨_, _, rfl⟩ := List.mem_map.1 hu
      rfl
  have hnl : news.length = m * t.size := by
    cases hsrc with
    | nil c => simp
    | raw ad m c news hl hc h1 => exact hl
    | own l o m c b news hb hn2 hl h1 => exact hl
    | str x h1 => rw [h1, byteCells_length, Nat.mul_one]
  have head : ∀ (cells : List Value) (w' : World), cells = news.take (min m len * t.size) → ((ao = none ∧ w' = w) ∨ ∃ ad, ao = some ad ∧ (storeCells ad cells 0).run C.P w = .ok () w') →
      ∀ ty, (Builtin.copy_ #[t1, t2] ty #[.slice ao len cap, val ρ y]).run C.P w = .ok (goInt (min m len : Nat)) w' := by
    intro cells w' hc hst ty
    have hf := hfirst (min m len) (Nat.min_le_left _ _)
    rw [← hc] at hf
    simp only [Builtin.copy_, bind]
    rw [show (#[t1, t2] : Array Nat)[0]? = some t1 from rfl]
    simp only [List.getElem?_toArray, List.getElem?_cons_zero, List.getElem?_cons_succ]
    rw [run_bind_pure (run_und h1)]
    simp only
    rw [run_bind_pure hlen, run_bind_pure (run_size hi)]
    simp only [hsz]
    rw [show Nat.min m len = min m len from rfl, run_bind_pure hf]
    rcases hst with ⟨rfl, rfl⟩ | ⟨ad, rfl, hst⟩
    · rfl
    · simp only; rw [run_bind_pure hst]; rfl
  rcases hK with ⟨h0, hK⟩ | ⟨i, r, b, j, ad, rfl, hr, ha, rfl, hj, hK⟩
  · refine ⟨s.rw_, 0, w, fun ty => ?_, hs, hK⟩
    rw [← h0]
    refine head [] w (by rw [h0]; simp) ?_ ty
    cases ao with
    | none => exact .inl ⟨rfl, rfl⟩
    | some ad => exact .inr ⟨ad, rfl, rfl⟩
  · have hm := List.mem_of_getElem? hr
    rcases hs.hr.row r hm with ⟨h4, hown⟩ | hfrz
    case inr =>
      have hx := hfrz.elim (fun f => f.2.1) (fun f => f.2.1)
      rw [hx, List.length_nil] at hj
      have hj2 : min m len * t.size = 0 := by omega
      have hj0 : j = 0 := by omega
      subst hj0
      refine ⟨s.rw_, min m len, w, head [] w (by rw [hj2]; rfl) (.inr ⟨_, rfl, rfl⟩), hs, ?_⟩
      have h9 := hK _ _ rfl rfl
      have e9 : ({ r with xs := r.xs.take 0 ++ news.take (min m len * t.size) ++ r.xs.drop (0 + min m len * t.size) } : Row) = r := by
        obtain ⟨ra, rn, rc, re, rz, rx⟩ := r
        simp only at hx
        subst hx
        rw [hj2]
        rfl
      rw [e9, set_same hr] at h9
      exact h9
    obtain ⟨e1, cur, ⟨fz, c1, hun⟩, c2, c3, c4, c5⟩ := row_addr hown ha
    have hrl : r.xs.length = r.n * r.sz := hown.1
    have hle : r.n * r.sz ≤ cur.toList.length := by simp [c4]; exact Nat.mul_le_mul_right _ c2
    have hml : min m len * t.size ≤ m * t.size := Nat.mul_le_mul_right _ (Nat.min_le_left _ _)
    have htl : (news.take (min m len * t.size)).length = min m len * t.size := by rw [List.length_take, hnl]; omega
    obtain ⟨w', hrun, hw, ho⟩ := run_storeCells (P := C.P) (news.take (min m len * t.size)) 0 j cur.toList w (by simpa using c1) (by simpa using hun) (by rw [htl]; omega)
      (fun v hv => oneV_one (hone v (List.mem_of_mem_take hv)))
    refine ⟨_, min m len, w', head _ w' rfl ?_, ?_, hK _ _ rfl rfl⟩
    · exact .inr ⟨_, rfl, by rw [e1, cell_add]; simpa using hrun⟩
    · have := row_write hs hr h4 hown ha c1 hun c4 c5 (j := j) (vs := news.take (min m len * t.size)) (by rw [htl]; exact hj) hw ho
      rw [htl] at this
      exact this

theorem run_sliceBounds {isS : Bool} {len cap : Nat} {lo hi : Option Value} {l h : Nat} {k1 k2 : IntKind} {P : Program} (hlo : lo = none ∧ l = 0 ∨ lo = some (.int k1 l)) (hhi : hi = none ∧ h = len ∨ hi = some (.int k2 h))
    (h1 : l ≤ h) (h2 : h ≤ cap) : (Instr.sliceBounds isS len cap lo hi none).run P w = .ok (l, h, cap) w := by
  rcases hlo with ⟨rfl, rfl⟩ | rfl <;> rcases hhi with ⟨rfl, rfl⟩ | rfl <;>
    simp [Instr.sliceBounds, Instr.sliceBound, asIntOf, h1, h2]
end
end Go.Se
