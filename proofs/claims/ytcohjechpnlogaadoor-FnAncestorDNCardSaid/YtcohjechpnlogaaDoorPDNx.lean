/- Written by a program of this session's, after the kit's printer: functions of the reference and what they compute. -/
import Derived.Test.YtcohjechpnlogaaDoorPDNx0
import Derived.Test.YtcohjechpnlogaaDoorPDNx1
import Derived.Test.YtcohjechpnlogaaDoorPDNx2
import Derived.Test.YtcohjechpnlogaaDoorPDNx3
import Derived.Test.YtcohjechpnlogaaDoorPDNx4
import Derived.Test.YtcohjechpnlogaaDoorPDNx5
import Derived.Test.YtcohjechpnlogaaDoorPDNx6
import Derived.Test.YtcohjechpnlogaaDoorPDNx7
namespace Go.Proofs.YtcohjechpnlogaaDoor.PDN
open Go.RowKit Go.Proofs.YtcohjechpnlogaaDoorW.PrintWords Go.Proofs.YtcohjechpnlogaaDoorW.PrintLast Go.Proofs.YtcohjechpnlogaaDoorW.PrintMore
attribute [local go_sem] max2_int min2_int max_two min_two max_three min_three max_four min_four   -- for this text's walks alone
set_option linter.unusedVariables false
set_option linter.unusedSimpArgs false

end Go.Proofs.YtcohjechpnlogaaDoor.PDN
