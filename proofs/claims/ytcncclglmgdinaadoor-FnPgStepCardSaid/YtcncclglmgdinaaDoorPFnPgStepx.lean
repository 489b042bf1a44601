-- PRINTED BY print.sh 35421559b90ae4d0a3588c463048766b98c2df88dd9212a6774a882060cdf62d: not written by this session
import Derived.Test.YtcncclglmgdinaaDoorPFnPgStepx0
import Derived.Test.YtcncclglmgdinaaDoorPFnPgStepx1
import Derived.Test.YtcncclglmgdinaaDoorPFnPgStepx2
import Derived.Test.YtcncclglmgdinaaDoorPFnPgStepx3
import Derived.Test.YtcncclglmgdinaaDoorPFnPgStepx4
import Derived.Test.YtcncclglmgdinaaDoorPFnPgStepx5
import Derived.Test.YtcncclglmgdinaaDoorPFnPgStepx6
import Derived.Test.YtcncclglmgdinaaDoorPFnPgStepx7
import Derived.Test.YtcncclglmgdinaaDoorPFnPgStepx8
import Derived.Test.YtcncclglmgdinaaDoorPFnPgStepx9
import Derived.Test.YtcncclglmgdinaaDoorPFnPgStepx10
namespace Go.Proofs.YtcncclglmgdinaaDoor.PFnPgStep
open Go.RowKit Go.Proofs.YtcncclglmgdinaaDoorW.PrintWords Go.Proofs.YtcncclglmgdinaaDoorW.PrintLast Go.Proofs.YtcncclglmgdinaaDoorW.PrintMore
attribute [local go_sem] max2_int min2_int max_two min_two max_three min_three max_four min_four   -- for this text's walks alone
set_option linter.unusedVariables false
set_option linter.unusedSimpArgs false

end Go.Proofs.YtcncclglmgdinaaDoor.PFnPgStep
