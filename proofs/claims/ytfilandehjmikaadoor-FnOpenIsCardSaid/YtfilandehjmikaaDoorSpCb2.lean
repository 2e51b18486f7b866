/- The closed runs over the specification's Crypt: ends of blocks of 16 bytes. No condition. -/
import Derived.Test.YtfilandehjmikaaDoorSpC
namespace Go.Proofs.YtfilandehjmikaaDoor.Asc
open Go.RowKit Go.Proofs.YtfilandehjmikaaDoor.Sx
theorem cEnd_16b_3 : ([10, 11].all fun j => cEnd true false 8 j) = true := by kernel_rfl
theorem cEnd_16b_4 : ([12, 13].all fun j => cEnd true false 8 j) = true := by kernel_rfl
theorem cEnd_16b_5 : ([14, 15].all fun j => cEnd true false 8 j) = true := by kernel_rfl
end Go.Proofs.YtfilandehjmikaaDoor.Asc
