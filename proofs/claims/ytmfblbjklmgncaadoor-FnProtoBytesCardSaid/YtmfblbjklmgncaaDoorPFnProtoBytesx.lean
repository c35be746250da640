-- Written by hprint.py (this session's program, over the kit's printing program, with this session's own contracts in it). Not trusted: Lean checks it.
import Derived.Test.YtmfblbjklmgncaaDoorPFnProtoBytesx0
import Derived.Test.YtmfblbjklmgncaaDoorPFnProtoBytesx1
import Derived.Test.YtmfblbjklmgncaaDoorPFnProtoBytesx2
namespace Go.Proofs.YtmfblbjklmgncaaDoor.PFnProtoBytes
open Go.RowKit Go.Proofs.YtmfblbjklmgncaaDoorW.PrintWords Go.Proofs.YtmfblbjklmgncaaDoorW.PrintLast Go.Proofs.YtmfblbjklmgncaaDoorW.PrintMore
attribute [local go_sem] max2_int min2_int max_two min_two max_three min_three max_four min_four   -- for this text's walks alone
set_option linter.unusedVariables false
set_option linter.unusedSimpArgs false

end Go.Proofs.YtmfblbjklmgncaaDoor.PFnProtoBytes
