/- The table that Itoa reads, off the rows' lists. -/
import Derived.Test.YtoijbpjlknmpmaaDoorRows
import Derived.Test.YtoijbpjlknmpmaaDoorVer
import Derived.Lib.LaidTab
import Derived.Stop.LaidErr
namespace Go.Proofs.YtoijbpjlknmpmaaDoor.laid
open Go.RowKit Go.Lib

theorem gType : (Tryd.prog.globals[0]?).map (·.type) = some 83 := by kernel_rfl
theorem cellsT : Tryd.prog.cellsOf 83 = 20 := by kernel_rfl
theorem cellsE : Tryd.prog.cellsOf 71 = 1 := by kernel_rfl
theorem tab_known {W : World} (h : laidMetH Tryd.prog Rows.fnSameBigKnownUptoRow.laid W) : ver.Tab W := by
  have h1 : laidMet Tryd.prog Rows.fnSameBigKnownUptoRow.laid W := h
  exact Lib.tabIs_of_head (rest := []) ver.gTab gType Tryd.underlying83 Tryd.underlying71 cellsE cellsT (laidMet.tail (laidMet.tail h1))
theorem tab_ver {W : World} (h : laidMetH Tryd.prog Rows.fnVersionTextUptoRow.laid W) : ver.Tab W := by
  have h1 : laidMet Tryd.prog Rows.fnVersionTextUptoRow.laid W := h
  exact Lib.tabIs_of_head (rest := []) ver.gTab gType Tryd.underlying83 Tryd.underlying71 cellsE cellsT (laidMet.tail (laidMet.tail h1))
end Go.Proofs.YtoijbpjlknmpmaaDoor.laid
