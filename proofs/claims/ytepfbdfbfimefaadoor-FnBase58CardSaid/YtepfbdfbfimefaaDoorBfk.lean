/- The package's table, out of the row's condition. -/
import Derived.Test.YtepfbdfbfimefaaDoorRows
import Derived.Test.YtepfbdfbfimefaaDoorBfi
import Derived.LaidLaws
import Derived.LaidMore
import Derived.LaidHandle
import Derived.MakeChecks
import Derived.FnData
import Derived.OpenShut
set_option linter.unusedVariables false
namespace Go.Proofs.YtepfbdfbfimefaaDoor.Bf
open Go Go.Se Go.Proofs Go.ChangeShapes Go.WideShapes Go.RowKit

theorem bG : Tryd.prog.globalNamed "pub-mintmark/pub/btcdaddress/base58.b58" = some 1 := by kernel_rfl
theorem bT : (Tryd.prog.globals[1]?).map (·.type) = some 59 := by kernel_rfl
theorem bC : Tryd.prog.cellsOf 5 = 1 := by kernel_rfl
theorem t58_wf : (t58.all fun x => (Lit.int .u8 x).wf) = true := by decide +kernel
theorem t58_laid : (Rows.laid_pub_mintmark_pub_btcdaddress_base58_b58 : DataW Unit) = .agg (t58.map fun k => .lit (.int .u8 k)) := by kernel_rfl
theorem t58_len : t58.length = 256 := by kernel_rfl

set_option maxRecDepth 100000 in
/-- One listed variable. -/
theorem b58_at {W : World} {cs0 : Array Value} {f0 : Nat} {q0 : List MemPlace} {enc : TypeId × Value → Unit} {sp : Nat → Bool} {held : Bool} {base : Nat} (hv0 : W.var? Tryd.prog "pub-mintmark/pub/btcdaddress/base58.b58" = some cs0)
    (hd0 : DataW.trod enc Tryd.prog W base sp held f0 59 cs0.toList = some (Rows.laid_pub_mintmark_pub_btcdaddress_base58_b58, q0)) : RI (fun b => W.heap[b]?) .u8 (some ⟨1, 0, none⟩) 256 t58 := by
  obtain ⟨ys, m, _, hx, hlen, hyl, hel⟩ := DataW.trod_array Tryd.underlying59 hd0
  have hx1 := congrArg Prod.fst hx
  have hx1 : (Rows.laid_pub_mintmark_pub_btcdaddress_base58_b58 : DataW Unit) = .agg (ys.map (·.1)) := hx1
  rw [t58_laid] at hx1
  have hys : t58.map (fun k => (DataW.lit (.int .u8 k) : DataW Unit)) = ys.map (·.1) := by injection hx1
  refine ⟨t58_len.symm, fun i h0 h1 => ⟨rfl, ?_⟩, fun x hx => List.all_eq_true.1 t58_wf x hx⟩
  obtain ⟨k, rfl⟩ : ∃ k : Nat, i = k := ⟨i.toNat, by omega⟩
  have hk : k < 256 := by omega
  have h5 := hel k hk
  rw [bC, Nat.mul_one] at h5
  obtain ⟨y, hy⟩ : ∃ y, ys[k]? = some y := ⟨_, List.getElem?_eq_getElem (by omega)⟩
  rw [hy] at h5
  obtain ⟨x, hc, hyx, _⟩ := DataW.trod_int Tryd.underlying5 h5
  have h6 : (ys.map (·.1))[k]? = some (.lit (.int .u8 x)) := by rw [List.getElem?_map, hy, hyx]; rfl
  rw [← hys, List.getElem?_map, Option.map_eq_some_iff] at h6
  obtain ⟨z, hz, hzx⟩ := h6
  have hzx : z = x := by
    injection hzx with hzx
    injection hzx
  have h7 : cs0[k]? = some (.int .u8 x) := by
    have h8 : ((cs0.toList.drop k).take 1)[0]? = some (.int .u8 x) := by rw [hc]; rfl
    rw [List.getElem?_take, if_pos (by decide), List.getElem?_drop] at h8
    simpa using h8
  have h9 : W.cell? ⟨1, k, none⟩ = some (.int .u8 x) := by rw [World.var?_cell bG hv0 k, h7]
  have e1 : Ar.real.elem (some ⟨1, 0, none⟩) (k : Int) 1 = ⟨1, k, none⟩ := by
    show (⟨1, 0, none⟩ : Addr).add ((k : Int).toNat * 1) = _
    rw [Int.toNat_natCast, Nat.mul_one]
    unfold Addr.add
    split
    · rename_i h; rw [h]
    · simp
  rw [e1, Int.toNat_natCast, List.getD_eq_getElem?_getD, hz, hzx]
  exact rcell_heap h9

theorem b58_of {W : World} {laid : List (String × DataW Unit)} (hlaid : laid = [("pub-mintmark/pub/btcdaddress/base58.b58", Rows.laid_pub_mintmark_pub_btcdaddress_base58_b58)]) (h : laidMetH Tryd.prog laid W) : RI (fun b => W.heap[b]?) .u8 (some ⟨1, 0, none⟩) 256 t58 := by
  subst hlaid
  rw [MakeChecks.laidMetH_plain _ _ _ (by kernel_rfl)] at h
  obtain ⟨ps, ⟨g0, t0, cs0, f0, p0, q0, hg0, ht0, hv0, hd0, hq, e0⟩, hnd, hrows⟩ := h
  obtain rfl := Option.some.inj (bG.symm.trans hg0)
  obtain rfl := Option.some.inj (bT.symm.trans ht0)
  exact b58_at hv0 hd0
end Go.Proofs.YtepfbdfbfimefaaDoor.Bf
