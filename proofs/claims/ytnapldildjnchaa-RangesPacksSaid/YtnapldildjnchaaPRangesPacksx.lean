-- PRINTED BY print.sh 35421559b90ae4d0a3588c463048766b98c2df88dd9212a6774a882060cdf62d: not written by this session
import Derived.Test.YtnapldildjnchaaPRangesPacksx0
import Derived.Test.YtnapldildjnchaaPRangesPacksx1
import Derived.Test.YtnapldildjnchaaPRangesPacksx2
import Derived.Test.YtnapldildjnchaaPRangesPacksx3
import Derived.Test.YtnapldildjnchaaPRangesPacksx4
import Derived.Test.YtnapldildjnchaaPRangesPacksx5
import Derived.Test.YtnapldildjnchaaPRangesPacksx6
namespace Go.Proofs.Ytnapldildjnchaa.PRangesPacks
open Go.RowKit Go.Proofs.YtnapldildjnchaaW.PrintWords Go.Proofs.YtnapldildjnchaaW.PrintLast Go.Proofs.YtnapldildjnchaaW.PrintMore
attribute [local go_sem] max2_int min2_int max_two min_two max_three min_three max_four min_four   -- for this text's walks alone
set_option linter.unusedVariables false
set_option linter.unusedSimpArgs false

end Go.Proofs.Ytnapldildjnchaa.PRangesPacks
