/- The library's errors, out of the row's condition. -/
import Derived.Test.YtnlpjppjhikooaaDoorRows
import Derived.Test.YtnlpjppjhikooaaDoorVda
import Derived.LaidLaws
import Derived.LaidHandle
import Derived.MakeChecks
import Derived.FnData
set_option linter.unusedVariables false
namespace Go.Proofs.YtnlpjppjhikooaaDoor.Vd
open Go Go.Se Go.Proofs Go.ChangeShapes Go.WideShapes Go.RowKit

theorem g6 : Tryd.prog.globalNamed "io.ErrShortBuffer" = some 6 := by kernel_rfl
theorem g7 : Tryd.prog.globalNamed "io.EOF" = some 7 := by kernel_rfl
theorem g8 : Tryd.prog.globalNamed "io.ErrUnexpectedEOF" = some 8 := by kernel_rfl
theorem t7 : (Tryd.prog.globals[7]?).map (·.type) = some 58 := by kernel_rfl
theorem t8 : (Tryd.prog.globals[8]?).map (·.type) = some 58 := by kernel_rfl
theorem cells228 : Tryd.prog.cellsOf 228 = 1 := by kernel_rfl
theorem cells9 : Tryd.prog.cellsOf 9 = 1 := by kernel_rfl
theorem star : "*" ++ "errors.errorString" = "*errors.errorString" := by decide
theorem row200 (u : TypeId) (h : Tryd.prog.typeName? 3 u = some "*errors.errorString") : u = 200 :=
  typeName_ptr_named (nm := "errors.errorString") (by rw [star]; kernel_rfl) (by kernel_rfl) (by decide) u (by rw [star]; exact h)

set_option maxRecDepth 100000 in
theorem ers_of {W : World} {laid : List (String × DataW Unit)} (hlaid : laid = [("io.ErrShortBuffer", Rows.laid_io_ErrShortBuffer), ("io.EOF", Rows.laid_io_EOF), ("io.ErrUnexpectedEOF", Rows.laid_io_ErrUnexpectedEOF)]) (h : laidMetH Tryd.prog laid W) : ∃ ae au, Ers (fun b => W.heap[b]?) ae au := by
  subst hlaid
  rw [MakeChecks.laidMetH_plain _ _ _ (by kernel_rfl)] at h
  obtain ⟨ps, ⟨g0, t0, cs0, f0, p0, q0, hg0, ht0, hv0, hd0, ⟨g1, t1, cs1, f1, p1, q1, hg1, ht1, hv1, hd1, ⟨g2, t2, cs2, f2, p2, q2, hg2, ht2, hv2, hd2, hq2, e2⟩, e1⟩, e0⟩, hnd, hrows⟩ := h
  obtain rfl := Option.some.inj (g7.symm.trans hg1)
  obtain rfl := Option.some.inj (g8.symm.trans hg2)
  obtain rfl := Option.some.inj (t7.symm.trans ht1)
  obtain rfl := Option.some.inj (t8.symm.trans ht2)
  have hq2' : q2 = [] := hq2
  subst hq2'
  subst e2
  subst e1
  subst e0
  obtain ⟨l1⟩ := cs1
  obtain ⟨l2⟩ := cs2
  have ok1 : ∀ u v, l1 = [.iface u v] → Value.okWide Tryd.prog W .any 0 u v := fun u v e => by
    subst e
    exact (hrows 7 0 (by simp [MemPlace.row])).2 u v (by simpa using World.var?_cell hg1 hv1 0)
  have ok2 : ∀ u v, l2 = [.iface u v] → Value.okWide Tryd.prog W .any 0 u v := fun u v e => by
    subst e
    exact (hrows 8 0 (by simp [MemPlace.row])).2 u v (by simpa using World.var?_cell hg2 hv2 0)
  obtain ⟨a1, s1, rfl, _, _, _, _⟩ := errorString_of_trod Tryd.underlying58 row200 Tryd.underlying200 Tryd.underlying228 rfl rfl Tryd.underlying9 cells228 cells9 hd1 ok1
  obtain ⟨a2, s2, rfl, _, _, _, _⟩ := errorString_of_trod Tryd.underlying58 row200 Tryd.underlying200 Tryd.underlying228 rfl rfl Tryd.underlying9 cells228 cells9 hd2 ok2
  exact ⟨a1, a2, rcell_heap (by simpa using World.var?_cell hg1 hv1 0), rcell_heap (by simpa using World.var?_cell hg2 hv2 0)⟩
end Go.Proofs.YtnlpjppjhikooaaDoor.Vd
