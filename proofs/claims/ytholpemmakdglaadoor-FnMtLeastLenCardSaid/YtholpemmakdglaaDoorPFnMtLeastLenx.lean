-- PRINTED BY print.sh 35421559b90ae4d0a3588c463048766b98c2df88dd9212a6774a882060cdf62d: not written by this session
import Derived.Test.YtholpemmakdglaaDoorPFnMtLeastLenx0
import Derived.Test.YtholpemmakdglaaDoorPFnMtLeastLenx1
import Derived.Test.YtholpemmakdglaaDoorPFnMtLeastLenx2
import Derived.Test.YtholpemmakdglaaDoorPFnMtLeastLenx3
import Derived.Test.YtholpemmakdglaaDoorPFnMtLeastLenx4
import Derived.Test.YtholpemmakdglaaDoorPFnMtLeastLenx5
import Derived.Test.YtholpemmakdglaaDoorPFnMtLeastLenx6
import Derived.Test.YtholpemmakdglaaDoorPFnMtLeastLenx7
namespace Go.Proofs.YtholpemmakdglaaDoor.PFnMtLeastLen
open Go.RowKit Go.Proofs.YtholpemmakdglaaDoorW.PrintWords Go.Proofs.YtholpemmakdglaaDoorW.PrintLast Go.Proofs.YtholpemmakdglaaDoorW.PrintMore
attribute [local go_sem] max2_int min2_int max_two min_two max_three min_three max_four min_four   -- for this text's walks alone
set_option linter.unusedVariables false
set_option linter.unusedSimpArgs false

end Go.Proofs.YtholpemmakdglaaDoor.PFnMtLeastLen
