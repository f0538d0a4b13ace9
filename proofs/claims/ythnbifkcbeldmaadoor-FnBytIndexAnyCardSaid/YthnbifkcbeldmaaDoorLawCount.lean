/- The law FnStrCount: the walk returns true. -/
import Derived.Test.YthnbifkcbeldmaaDoorCount
import Derived.Test.YthnbifkcbeldmaaDoorBreaks
namespace Go.Proofs.YthnbifkcbeldmaaDoor
open Go.RowKit Go.Lib
set_option linter.unusedVariables false

theorem chain {a b c : World} (h : Below a.heap.size a b) (k : Below b.heap.size b c) : Below a.heap.size a c := h.trans (k.mono h.size)
theorem breaks_count (s sep : ByteArray) (h : 1 ≤ sep.size) : (breaks s sep (-1)).length = cntB s sep := by
  unfold breaks
  rw [cutMost_neg (by omega), if_neg (by omega), cntB_more s sep h, countB_brk s sep h]
theorem starts_count (s sep : ByteArray) (h : sep.size = 0) : (starts s).length + 1 = cntB s sep := by
  rw [starts_length, cntB_empty s sep h]

end Go.Proofs.YthnbifkcbeldmaaDoor
