/- The package's numbers, out of the row's condition. -/
import Derived.Test.YtfkdaelfehibcaaDoorRows
import Derived.Test.YtfkdaelfehibcaaDoorBej
import Derived.LaidLaws
import Derived.LaidMore
import Derived.LaidHandle
import Derived.MakeChecks
import Derived.FnData
set_option linter.unusedVariables false
universe u
namespace Go.Proofs.YtfkdaelfehibcaaDoor.Be
open Go Go.Se Go.Proofs Go.ChangeShapes Go.WideShapes Go.RowKit

theorem gG : Tryd.prog.globalNamed "pub-mintmark/pub/btcdaddress/bech32.gen" = some 1 := by kernel_rfl
theorem gT : (Tryd.prog.globals[1]?).map (·.type) = some 68 := by kernel_rfl
theorem gC : Tryd.prog.cellsOf 3 = 1 := by kernel_rfl

set_option maxRecDepth 100000 in
theorem gen_of {W : World} {laid : List (String × DataW Unit)} (hlaid : laid = [("pub-mintmark/pub/btcdaddress/bech32.gen", Rows.laid_pub_mintmark_pub_btcdaddress_bech32_gen)]) (h : laidMetH Tryd.prog laid W) : ∃ ga cg, Gen (fun b => W.heap[b]?) (some ga) 5 cg := by
  subst hlaid
  rw [MakeChecks.laidMetH_plain _ _ _ (by kernel_rfl)] at h
  obtain ⟨ps, ⟨g0, t0, cs0, f0, p0, q0, hg0, ht0, hv0, hd0, hq, e0⟩, hnd, hrows⟩ := h
  obtain rfl := Option.some.inj (gG.symm.trans hg0)
  obtain rfl := Option.some.inj (gT.symm.trans ht0)
  obtain ⟨l0⟩ := cs0
  obtain ⟨a, cap, hcs, hlen, hel⟩ := _root_.Go.open_row Tryd.underlying68 gC hd0
  have hcs : l0 = [.slice (some a) 5 cap] := hcs
  subst hcs
  refine ⟨a, cap, fun j v hv => ?_, rfl, fun i h0 h1 => ⟨rfl, ?_⟩, by decide⟩
  · cases j with
    | zero =>
      have hv : some (Value.slice (some a) 5 cap) = some v := hv
      rw [← hv]
      have h9 : W.cell? ⟨1, 0, none⟩ = some (.slice (some a) 5 cap) := by simpa using World.var?_cell hg0 hv0 0
      exact rcell_heap h9
    | succ j => simp at hv
  · obtain ⟨m, rfl⟩ : ∃ m : Nat, i = m := ⟨i.toNat, by omega⟩
    have one : ∀ (k : Int), [DataW.lit (H := Unit) (.int .i64 996825010), .lit (.int .i64 642813549), .lit (.int .i64 513874426), .lit (.int .i64 1027748829), .lit (.int .i64 705979059)][m]? = some (.lit (.int .i64 k)) → W.cell? (a.add m) = some (.int .i64 k) := by
      intro k hk
      obtain ⟨v, n, q, h2, h3⟩ := hel m _ hk
      obtain ⟨x, hx, hy, _⟩ := DataW.trod_int Tryd.underlying3 h3
      have hvx : v = .int .i64 x := by simpa using hx
      have hkx : k = x := by
        have := congrArg Prod.fst hy
        simpa using this
      rw [h2, hvx, hkx]
    have : Ar.real.elem (some a) (m : Int) 1 = a.add m := by
      show a.add ((m : Int).toNat * 1) = _
      rw [Int.toNat_natCast, Nat.mul_one]
    rw [this]
    refine rcell_heap (one _ ?_)
    rcases (by omega : m = 0 ∨ m = 1 ∨ m = 2 ∨ m = 3 ∨ m = 4) with rfl | rfl | rfl | rfl | rfl <;> rfl

theorem lawB (hP : Tryd.prog = Tryd.prog) (R : RO) (ga : Option Addr) (g5 cg : Nat) (hg : Gen R ga g5 cg) (hg5 : g5 = 5) (hgs : ga.isSome = true) (x : ByteArray) {α : Sort u} (_ : α) :
    RetP Tryd.prog 3 [.string x] R fun _ v => v = .bool true := law hP R ga g5 cg hg hg5 hgs x
end Go.Proofs.YtfkdaelfehibcaaDoor.Be
