/-
  DERIVED. GIVEN WITH THE SEED: THE PROGRAM's TIES (one call each: nine closed facts by the kernel) AND EACH ROW's TIE, after the 31st guide's Derived/Test/Toyas{Tie, Card}.lean. No idea stands in it: it is a product of the set-up. Laid BY PROGRAM, IN A SANDBOX (cutbox-door.mjs). By AI agents, Wed Nov 11 2026. No macro, syntax, notation, axiom, sorry.
-/
import Derived.Test.YtepfbdfbfimefaaDoorRows
import Derived.LaidByTextLater
import Derived.SevenTiedAt
import Derived.LaidSub
import Derived.LaidOnce
namespace Go.Proofs.YtepfbdfbfimefaaDoor
open Go
set_option maxRecDepth 100000
theorem seatTie1 : Tryd.prog.laidByTextLater [("pub-mintmark/pub/btcdaddress/base58.b58", Rows.laid_pub_mintmark_pub_btcdaddress_base58_b58), ("pub-mintmark/pub/btcdaddress/base58.ErrChecksum", Rows.laid_pub_mintmark_pub_btcdaddress_base58_ErrChecksum), ("pub-mintmark/pub/btcdaddress/base58.ErrInvalidFormat", Rows.laid_pub_mintmark_pub_btcdaddress_base58_ErrInvalidFormat)] [.data, .sentinel, .sentinel] true :=
  Program.laidByTextLater_by_one 57 8 257 (by kernel_rfl) (by kernel_rfl) (by kernel_rfl) (by kernel_rfl) (by kernel_rfl) (by kernel_rfl) (fun _ _ => by kernel_rfl)
theorem noOwnUnsafe : Tryd.pinned.checked.prog.headLifts.contains "ownunsafe" = false := by kernel_rfl
theorem tie : Tryd.prog.laidByTextLater [("pub-mintmark/pub/btcdaddress/base58.b58", Rows.laid_pub_mintmark_pub_btcdaddress_base58_b58)] [.data] true :=
  Program.laidByTextLater.sub seatTie1 ["pub-mintmark/pub/btcdaddress/base58.b58"] (by kernel_rfl) (by kernel_rfl)
theorem fnBase58_row_tie : Rows.fnBase58Row.laidByTextAt .later Tryd.pinned [.data] true :=
  OpenClaim.laidByTextAt_later rfl rfl tie noOwnUnsafe
theorem tie2 : Tryd.prog.laidByTextLater [("pub-mintmark/pub/btcdaddress/base58.b58", Rows.laid_pub_mintmark_pub_btcdaddress_base58_b58), ("pub-mintmark/pub/btcdaddress/base58.ErrChecksum", Rows.laid_pub_mintmark_pub_btcdaddress_base58_ErrChecksum), ("pub-mintmark/pub/btcdaddress/base58.ErrInvalidFormat", Rows.laid_pub_mintmark_pub_btcdaddress_base58_ErrInvalidFormat)] [.data, .sentinel, .sentinel] true :=
  Program.laidByTextLater.sub seatTie1 ["pub-mintmark/pub/btcdaddress/base58.b58", "pub-mintmark/pub/btcdaddress/base58.ErrChecksum", "pub-mintmark/pub/btcdaddress/base58.ErrInvalidFormat"] (by kernel_rfl) (by kernel_rfl)
theorem fnReadAddress58_row_tie : Rows.fnReadAddress58Row.laidByTextAt .later Tryd.pinned [.data, .sentinel, .sentinel] true :=
  OpenClaim.laidByTextAt_later rfl rfl tie2 noOwnUnsafe
theorem fnBase58Upto_row_tie : Rows.fnBase58UptoRow.laidByTextAt .later Tryd.pinned [.data] true :=
  OpenClaim.laidByTextAt_later rfl rfl tie noOwnUnsafe
theorem fnReadAddress58Upto_row_tie : Rows.fnReadAddress58UptoRow.laidByTextAt .later Tryd.pinned [.data, .sentinel, .sentinel] true :=
  OpenClaim.laidByTextAt_later rfl rfl tie2 noOwnUnsafe
end Go.Proofs.YtepfbdfbfimefaaDoor
