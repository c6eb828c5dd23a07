/- The table of opcodes serves the tokenizer. -/
import Derived.Test.YtbakdoienfmacaaTke
import Derived.Test.YtbakdoienfmacaaTko
set_option linter.unusedSimpArgs false
set_option linter.unusedVariables false
namespace Go.Proofs.Ytbakdoienfmacaa.Tk
open Go Go.Se Go.Proofs

theorem opSpec : OpSpec Try.prog := fun R x h0 h1 => opcodeOf rfl R x h0 h1
end Go.Proofs.Ytbakdoienfmacaa.Tk
