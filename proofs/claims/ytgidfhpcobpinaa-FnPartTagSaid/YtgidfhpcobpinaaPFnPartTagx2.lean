-- PRINTED BY print.sh 35421559b90ae4d0a3588c463048766b98c2df88dd9212a6774a882060cdf62d: not written by this session
import Derived.Test.YtgidfhpcobpinaaPFnPartTagx0
namespace Go.Proofs.Ytgidfhpcobpinaa.PFnPartTag
open Go.RowKit Go.Proofs.YtgidfhpcobpinaaW.PrintWords Go.Proofs.YtgidfhpcobpinaaW.PrintLast Go.Proofs.YtgidfhpcobpinaaW.PrintMore
attribute [local go_sem] max2_int min2_int max_two min_two max_three min_three max_four min_four   -- for this text's walks alone
set_option linter.unusedVariables false
set_option linter.unusedSimpArgs false

-- NOT PRINTED: function 21 (scanner_Scanner_pos)

-- NOT PRINTED: function 22 (scanner_Scanner_progressColumn)

-- NOT PRINTED: function 23 (scanner_Context_clear)

-- NOT PRINTED: function 24 (token_Invalid)

-- NOT PRINTED: function 25 (scanner_ErrInvalidToken)

-- NOT PRINTED: function 10 (scanner_Scanner_scanTag)

-- NOT PRINTED: function 7 (scanner_ZzTag)

-- NOT PRINTED: function 11 (impl_place)

-- NOT PRINTED: function 12 (impl_index)

-- NOT PRINTED: function 8 (impl_list)

-- NOT PRINTED: function 5 (impl_ScanTag)

-- NOT PRINTED: function 3 (laws_FnPartTag)

end Go.Proofs.Ytgidfhpcobpinaa.PFnPartTag
