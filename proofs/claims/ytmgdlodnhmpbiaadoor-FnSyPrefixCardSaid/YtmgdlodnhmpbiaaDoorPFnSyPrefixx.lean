-- PRINTED BY print.sh 35421559b90ae4d0a3588c463048766b98c2df88dd9212a6774a882060cdf62d: not written by this session
import Derived.Test.YtmgdlodnhmpbiaaDoorPFnSyPrefixx0
import Derived.Test.YtmgdlodnhmpbiaaDoorPFnSyPrefixx1
import Derived.Test.YtmgdlodnhmpbiaaDoorPFnSyPrefixx2
import Derived.Test.YtmgdlodnhmpbiaaDoorPFnSyPrefixx3
import Derived.Test.YtmgdlodnhmpbiaaDoorPFnSyPrefixx4
import Derived.Test.YtmgdlodnhmpbiaaDoorPFnSyPrefixx5
import Derived.Test.YtmgdlodnhmpbiaaDoorPFnSyPrefixx6
import Derived.Test.YtmgdlodnhmpbiaaDoorPFnSyPrefixx7
import Derived.Test.YtmgdlodnhmpbiaaDoorPFnSyPrefixx8
import Derived.Test.YtmgdlodnhmpbiaaDoorPFnSyPrefixx9
namespace Go.Proofs.YtmgdlodnhmpbiaaDoor.PFnSyPrefix
open Go.RowKit Go.Proofs.YtmgdlodnhmpbiaaDoorW.PrintWords Go.Proofs.YtmgdlodnhmpbiaaDoorW.PrintLast Go.Proofs.YtmgdlodnhmpbiaaDoorW.PrintMore
attribute [local go_sem] max2_int min2_int max_two min_two max_three min_three max_four min_four   -- for this text's walks alone
set_option linter.unusedVariables false
set_option linter.unusedSimpArgs false

end Go.Proofs.YtmgdlodnhmpbiaaDoor.PFnSyPrefix
