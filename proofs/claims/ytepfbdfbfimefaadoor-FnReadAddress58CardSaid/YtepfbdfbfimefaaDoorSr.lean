/- Rows of a call's own: what the model does with them. -/
import Derived.Test.YtepfbdfbfimefaaDoorSd
import Derived.Maps.AppendAt
import Derived.Deep.AppendSrc
set_option linter.unusedSimpArgs false
set_option linter.unusedVariables false
namespace Go.Se
open Go

theorem oneBlk_setCells {b : Nat} : ∀ (vs : List Value) (o : Nat) (w : World), OneBlk b w (w.setCells b o vs)
  | [], _, w => .refl _ _
  | v :: vs, o, w => (oneBlk_setCell w b o v).trans (oneBlk_setCells vs (o + 1) _)

theorem setCells_self {b T : Nat} {fz : Nat × Nat} : ∀ (vs : List Value) (o : Nat) (w : World) (c : List Value), w.heap[b]? = some (.cells c.toArray T fz) →
    (w.setCells b o vs).heap[b]? = some (.cells (putA c o vs).toArray T fz)
  | [], _, w, c, h => h
  | v :: vs, o, w, c, h => by
    have := setCell_self (o := o) (v := v) h
    have h2 := setCells_self (T := T) vs (o + 1) (w.setCell ⟨b, o, none⟩ v) (c.set o v) (by simpa using this)
    exact h2

theorem putA_take : ∀ (vs c : List Value) (o : Nat), o + vs.length ≤ c.length → (putA c o vs).take (o + vs.length) = c.take o ++ vs
  | [], c, o, _ => by simp [putA]
  | v :: vs, c, o, h => by
    simp only [List.length_cons] at h
    have h1 := putA_take vs (c.set o v) (o + 1) (by simp; omega)
    simp only [putA, List.length_cons]
    rw [show o + (vs.length + 1) = o + 1 + vs.length by omega, h1]
    have : (c.set o v).take (o + 1) = c.take o ++ [v] := by
      rw [List.take_set]
      apply List.ext_getElem?
      intro j
      rw [List.getElem?_set, List.getElem?_append]
      simp only [List.length_take, List.getElem?_take]
      by_cases hj : o = j
      · subst hj
        rw [if_pos rfl, if_pos (by omega), if_neg (by omega), Nat.min_eq_left (by omega)]; simp
      · by_cases hlt : j < o
        · simp [hj, hlt, show j < o + 1 by omega]; omega
        · simp [hj, hlt]
          rw [if_neg (by omega)]
          by_cases h2 : j < min o c.length
          · omega
          · rw [if_neg h2]
            rw [Nat.min_eq_left (by omega)]
            rw [List.getElem?_eq_none (by simp; omega)]
    rw [this]
    simp

section
variable {P : Program} {w : World}

theorem run_append {t tx ty e : Nat} {i : TypeInfo} {z : Value} (ht : P.underlying t = some (.slice e)) (hi : P.info? e = some i) (hz : i.zero = some z) (hzs : z.cells.size = i.size)
    {v : Value} {n : Nat} {xs : List Value} (hown : w.ownsRowG 0 e i.size v n xs) {x : Value} {m : Nat} {news : List Value} (hs : Src P i.size tx x m news w)
    (h63 : n + m ≤ maxLen) (hbytes : (n + m) * i.bytes ≤ 140737488355328) :
    ∃ v' w', (Builtin.append_ #[t, tx] ty #[v, x]).run P w = .ok v' w' ∧ w'.ownsRowG 0 e i.size v' (n + m) (xs ++ news) ∧ w.grownBy w' v.ownBlock ∧
      (v'.ownBlock = v.ownBlock ∨ v'.ownBlock = some w.heap.size) ∧ (v' = .slice none 0 0 → v = .slice none 0 0) := by
  have hsmall : n + m ≤ 9223372036854775807 := by simp only [maxLen] at h63; omega
  have hlen : (xs ++ news).length = (n + m) * i.size := by rw [List.length_append, hown.1, hs.newsLen, Nat.add_mul]
  have grown : ∀ (old : Nat), old < n + m → ∀ (row : Option Nat),
      (w.drew.alloc (.cells ((xs ++ news).toArray ++ Builtin.zeroCells z.cells (grownCap w (n + m) old e - (n + m))) e)).ownsRowG 0 e i.size
        (.slice (some ⟨w.heap.size, 0, none⟩) (n + m) (grownCap w (n + m) old e)) (n + m) (xs ++ news) ∧
      w.grownBy (w.drew.alloc (.cells ((xs ++ news).toArray ++ Builtin.zeroCells z.cells (grownCap w (n + m) old e - (n + m))) e)) row := by
    intro old ho row
    have hge := grownCap_ge w (n + m) old e
    have hcm : grownCap w (n + m) old e ≤ maxLen := grownCap_le_maxLen w (n + m) old e h63
    refine ⟨⟨hlen, .inr ⟨w.heap.size, _, _, rfl, Nat.zero_le _, ⟨_, heap_alloc_new w.drew _, un0 _⟩, hge, hcm, ?_, ?_⟩⟩, ⟨rfl, rfl, rfl, by simp, fun k hk _ => heap_alloc_old w.drew _ hk⟩⟩
    · simp only [Array.size_append, List.size_toArray, size_zeroCells, hzs, hlen, ← Nat.add_mul]
      congr 1
      omega
    · simp only [Array.toList_append]
      rw [← hlen]
      exact List.take_left
  have grow : ∀ (base : Option Addr) (c : Nat), v = .slice base n c → c < n + m → (Builtin.firstCells i.size n v).run P w.drew = .ok xs.toArray w.drew →
      ∃ v' w', (Builtin.append_ #[t, tx] ty #[v, x]).run P w = .ok v' w' ∧ w'.ownsRowG 0 e i.size v' (n + m) (xs ++ news) ∧ w.grownBy w' v.ownBlock ∧
      (v'.ownBlock = v.ownBlock ∨ v'.ownBlock = some w.heap.size) ∧ (v' = .slice none 0 0 → v = .slice none 0 0) := by
    intro base c hv hc hold
    subst hv
    have hfit : Builtin.nextslicecap (n + m) c * i.bytes ≤ 281474976710656 := growslice_fits hc hbytes
    have hr := run_append_grow_src (P := P) w t tx ty e i z ht hi hz base n c xs hold x m news hs hc (by omega) hfit
    have hgr := grown c hc (Value.ownBlock (.slice base n c))
    exact ⟨_, _, hr, hgr.1, hgr.2, .inr rfl, fun h => by simp at h⟩
  rcases hown.2 with ⟨hv, hn⟩ | ⟨g, cap, cur, hv, hbg, ⟨fz, hg, hun⟩, hnc, hcm, hcs, htake⟩
  · by_cases hm : m = 0
    · subst hm
      subst hv hn
      have hx : xs = [] := List.eq_nil_of_length_eq_zero (by simpa using hown.1)
      have hnw : news = [] := List.eq_nil_of_length_eq_zero (by simpa using hs.newsLen)
      subst hx hnw
      refine ⟨.slice none 0 0, w, ?_, World.ownsRowG_nil w 0 e i.size, ⟨rfl, rfl, rfl, Nat.le_refl _, fun _ _ _ => rfl⟩, .inl rfl, fun _ => rfl⟩
      have h1 := hs.len w
      have h2 := hs.cells
      rcases hs.kind with ⟨e', hk⟩ | hk <;> simp [Builtin.append_, run_underlying ht, run_underlying hk, sizeOf, typeInfo, hi, h1, h2]
    · refine grow none 0 (by rw [hv, hn]) (by omega) ?_
      have hx : xs = [] := List.eq_nil_of_length_eq_zero (by rw [hown.1, hn]; simp)
      subst hx hn hv
      simp [Builtin.firstCells]
  · by_cases hroom : n + m ≤ cap
    · subst hv
      have hcl : ∀ j, j < news.length → n * i.size + j < cur.size := fun j hj => by
        have h1 : (n + m) * i.size ≤ cap * i.size := Nat.mul_le_mul_right _ hroom
        rw [hs.newsLen] at hj
        rw [Nat.add_mul] at h1
        omega
      have hr := run_append_room_src (P := P) w t tx ty e i ht hi g 0 n cap x m news hs hroom (fun j hj => by
        have := hcl j hj
        simp [World.cell?, hg, this]) (fun j hj => by
        have h7 := hun _ (hcl j hj)
        simp only [World.frozen?, hg]
        simp
        omega)
      have hob := oneBlk_setCells (b := g) news (0 + n * i.size) w
      have hse := setCells_self (b := g) (T := e) news (0 + n * i.size) w cur.toList (by simpa using hg)
      refine ⟨_, _, hr, ⟨hlen, .inr ⟨g, cap, _, rfl, hbg, ⟨fz, hse, by simpa [putA_len] using hun⟩, hroom, hcm, ?_, ?_⟩⟩, ⟨hob.os, hob.tape, hob.output, Nat.le_of_eq hob.size.symm, fun k hk hne => hob.block k fun he => hne (by simp [Value.ownBlock, he])⟩, .inl rfl, fun h => by simp at h⟩
      · simp [putA_len, hcs]
      · have h1 : (n + m) * i.size ≤ cap * i.size := Nat.mul_le_mul_right _ hroom
        rw [Nat.add_mul] at h1 ⊢
        have h2 := putA_take news cur.toList (0 + n * i.size) (by rw [hs.newsLen]; simp [hcs]; omega)
        rw [hs.newsLen] at h2
        simp only [Nat.zero_add] at h2 ⊢
        rw [h2, htake]
    · refine grow (some ⟨g, 0, none⟩) cap hv (by omega) ?_
      have holds : ∀ j u, xs[j]? = some u → w.cell? ((⟨g, 0, none⟩ : Addr).add j) = some u := hown.cells (g := g) (by rw [hv]; rfl)
      rw [hv]
      exact run_firstCells_some (P := P) w.drew i.size n ⟨g, 0, none⟩ n cap xs hown.1 (by simpa using holds)

/-- .. where the row's head may be frozen. -/
theorem run_appendF {t tx ty e : Nat} {i : TypeInfo} {z : Value} (ht : P.underlying t = some (.slice e)) (hi : P.info? e = some i) (hz : i.zero = some z) (hzs : z.cells.size = i.size)
    {v : Value} {n : Nat} {xs : List Value} (hown : w.ownsRowF 0 e i.size v n xs) {x : Value} {m : Nat} {news : List Value} (hs : Src P i.size tx x m news w)
    (h63 : n + m ≤ maxLen) (hbytes : (n + m) * i.bytes ≤ 140737488355328) :
    ∃ v' w', (Builtin.append_ #[t, tx] ty #[v, x]).run P w = .ok v' w' ∧ w'.ownsRowF 0 e i.size v' (n + m) (xs ++ news) ∧ w.grownBy w' v.ownBlock ∧
      (v'.ownBlock = v.ownBlock ∨ v'.ownBlock = some w.heap.size) ∧ (v' = .slice none 0 0 → v = .slice none 0 0) := by
  have hsmall : n + m ≤ 9223372036854775807 := by simp only [maxLen] at h63; omega
  have hlen : (xs ++ news).length = (n + m) * i.size := by rw [List.length_append, hown.1, hs.newsLen, Nat.add_mul]
  have grown : ∀ (old : Nat), old < n + m → ∀ (row : Option Nat),
      (w.drew.alloc (.cells ((xs ++ news).toArray ++ Builtin.zeroCells z.cells (grownCap w (n + m) old e - (n + m))) e)).ownsRowF 0 e i.size
        (.slice (some ⟨w.heap.size, 0, none⟩) (n + m) (grownCap w (n + m) old e)) (n + m) (xs ++ news) ∧
      w.grownBy (w.drew.alloc (.cells ((xs ++ news).toArray ++ Builtin.zeroCells z.cells (grownCap w (n + m) old e - (n + m))) e)) row := by
    intro old ho row
    have hge := grownCap_ge w (n + m) old e
    have hcm : grownCap w (n + m) old e ≤ maxLen := grownCap_le_maxLen w (n + m) old e h63
    refine ⟨⟨hlen, .inr ⟨w.heap.size, _, _, (0, 0), rfl, Nat.zero_le _, heap_alloc_new w.drew _, Nat.zero_le _, hge, hcm, ?_, ?_⟩⟩, ⟨rfl, rfl, rfl, by simp, fun k hk _ => heap_alloc_old w.drew _ hk⟩⟩
    · simp only [Array.size_append, List.size_toArray, size_zeroCells, hzs, hlen, ← Nat.add_mul]
      congr 1
      omega
    · simp only [Array.toList_append]
      rw [← hlen]
      exact List.take_left
  have grow : ∀ (base : Option Addr) (c : Nat), v = .slice base n c → c < n + m → (Builtin.firstCells i.size n v).run P w.drew = .ok xs.toArray w.drew →
      ∃ v' w', (Builtin.append_ #[t, tx] ty #[v, x]).run P w = .ok v' w' ∧ w'.ownsRowF 0 e i.size v' (n + m) (xs ++ news) ∧ w.grownBy w' v.ownBlock ∧
      (v'.ownBlock = v.ownBlock ∨ v'.ownBlock = some w.heap.size) ∧ (v' = .slice none 0 0 → v = .slice none 0 0) := by
    intro base c hv hc hold
    subst hv
    have hfit : Builtin.nextslicecap (n + m) c * i.bytes ≤ 281474976710656 := growslice_fits hc hbytes
    have hr := run_append_grow_src (P := P) w t tx ty e i z ht hi hz base n c xs hold x m news hs hc (by omega) hfit
    have hgr := grown c hc (Value.ownBlock (.slice base n c))
    exact ⟨_, _, hr, hgr.1, hgr.2, .inr rfl, fun h => by simp at h⟩
  rcases hown.2 with ⟨hv, hn⟩ | ⟨g, cap, cur, fz, hv, hbg, hg, hfz, hnc, hcm, hcs, htake⟩
  · by_cases hm : m = 0
    · subst hm
      subst hv hn
      have hx : xs = [] := List.eq_nil_of_length_eq_zero (by simpa using hown.1)
      have hnw : news = [] := List.eq_nil_of_length_eq_zero (by simpa using hs.newsLen)
      subst hx hnw
      refine ⟨.slice none 0 0, w, ?_, World.ownsRowF_nil w 0 e i.size, ⟨rfl, rfl, rfl, Nat.le_refl _, fun _ _ _ => rfl⟩, .inl rfl, fun _ => rfl⟩
      have h1 := hs.len w
      have h2 := hs.cells
      rcases hs.kind with ⟨e', hk⟩ | hk <;> simp [Builtin.append_, run_underlying ht, run_underlying hk, sizeOf, typeInfo, hi, h1, h2]
    · refine grow none 0 (by rw [hv, hn]) (by omega) ?_
      have hx : xs = [] := List.eq_nil_of_length_eq_zero (by rw [hown.1, hn]; simp)
      subst hx hn hv
      simp [Builtin.firstCells]
  · by_cases hroom : n + m ≤ cap
    · subst hv
      have hcl : ∀ j, j < news.length → n * i.size + j < cur.size := fun j hj => by
        have h1 : (n + m) * i.size ≤ cap * i.size := Nat.mul_le_mul_right _ hroom
        rw [hs.newsLen] at hj
        rw [Nat.add_mul] at h1
        omega
      have hr := run_append_room_src (P := P) w t tx ty e i ht hi g 0 n cap x m news hs hroom (fun j hj => by
        have := hcl j hj
        simp [World.cell?, hg, this]) (fun j hj => by
        simp only [World.frozen?, hg]
        simp
        omega)
      have hob := oneBlk_setCells (b := g) news (0 + n * i.size) w
      have hse := setCells_self (b := g) (T := e) news (0 + n * i.size) w cur.toList (by simpa using hg)
      refine ⟨_, _, hr, ⟨hlen, .inr ⟨g, cap, _, fz, rfl, hbg, hse, Nat.le_trans hfz (Nat.mul_le_mul_right _ (Nat.le_add_right n m)), hroom, hcm, ?_, ?_⟩⟩, ⟨hob.os, hob.tape, hob.output, Nat.le_of_eq hob.size.symm, fun k hk hne => hob.block k fun he => hne (by simp [Value.ownBlock, he])⟩, .inl rfl, fun h => by simp at h⟩
      · simp [putA_len, hcs]
      · have h1 : (n + m) * i.size ≤ cap * i.size := Nat.mul_le_mul_right _ hroom
        rw [Nat.add_mul] at h1 ⊢
        have h2 := putA_take news cur.toList (0 + n * i.size) (by rw [hs.newsLen]; simp [hcs]; omega)
        rw [hs.newsLen] at h2
        simp only [Nat.zero_add] at h2 ⊢
        rw [h2, htake]
    · refine grow (some ⟨g, 0, none⟩) cap hv (by omega) ?_
      have holds : ∀ j u, xs[j]? = some u → w.cell? ((⟨g, 0, none⟩ : Addr).add j) = some u := hown.cells (g := g) (by rw [hv]; rfl)
      rw [hv]
      exact run_firstCells_some (P := P) w.drew i.size n ⟨g, 0, none⟩ n cap xs hown.1 (by simpa using holds)
end
end Go.Se
