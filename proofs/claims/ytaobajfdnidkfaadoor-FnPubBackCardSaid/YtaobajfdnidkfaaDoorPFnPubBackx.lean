-- Written by hprint.py (this session's program, over the kit's printing program, with this session's own contracts in it). Not trusted: Lean checks it.
import Derived.Test.YtaobajfdnidkfaaDoorPFnPubBackx0
import Derived.Test.YtaobajfdnidkfaaDoorPFnPubBackx1
import Derived.Test.YtaobajfdnidkfaaDoorPFnPubBackx2
import Derived.Test.YtaobajfdnidkfaaDoorPFnPubBackx3
import Derived.Test.YtaobajfdnidkfaaDoorPFnPubBackx4
import Derived.Test.YtaobajfdnidkfaaDoorPFnPubBackx5
namespace Go.Proofs.YtaobajfdnidkfaaDoor.PFnPubBack
open Go.RowKit Go.Proofs.YtaobajfdnidkfaaDoorW.PrintWords Go.Proofs.YtaobajfdnidkfaaDoorW.PrintLast Go.Proofs.YtaobajfdnidkfaaDoorW.PrintMore
attribute [local go_sem] max2_int min2_int max_two min_two max_three min_three max_four min_four   -- for this text's walks alone
set_option linter.unusedVariables false
set_option linter.unusedSimpArgs false

end Go.Proofs.YtaobajfdnidkfaaDoor.PFnPubBack
