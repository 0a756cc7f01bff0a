/- Words that print.sh printed (a cut). -/
import Derived.SizedLaws
import Derived.ChangeSlices
set_option linter.unusedVariables false
set_option linter.unusedSimpArgs false
