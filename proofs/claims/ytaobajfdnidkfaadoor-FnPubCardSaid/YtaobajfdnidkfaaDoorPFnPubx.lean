-- Written by hprint.py (this session's program, over the kit's printing program, with this session's own contracts in it). Not trusted: Lean checks it.
import Derived.Test.YtaobajfdnidkfaaDoorPFnPubx0
import Derived.Test.YtaobajfdnidkfaaDoorPFnPubx1
import Derived.Test.YtaobajfdnidkfaaDoorPFnPubx2
import Derived.Test.YtaobajfdnidkfaaDoorPFnPubx3
import Derived.Test.YtaobajfdnidkfaaDoorPFnPubx4
import Derived.Test.YtaobajfdnidkfaaDoorPFnPubx5
namespace Go.Proofs.YtaobajfdnidkfaaDoor.PFnPub
open Go.RowKit Go.Proofs.YtaobajfdnidkfaaDoorW.PrintWords Go.Proofs.YtaobajfdnidkfaaDoorW.PrintLast Go.Proofs.YtaobajfdnidkfaaDoorW.PrintMore
attribute [local go_sem] max2_int min2_int max_two min_two max_three min_three max_four min_four   -- for this text's walks alone
set_option linter.unusedVariables false
set_option linter.unusedSimpArgs false

end Go.Proofs.YtaobajfdnidkfaaDoor.PFnPub
