/- The closed runs over the specification's Crypt: ends of blocks of 16 bytes. No condition. -/
import Derived.Test.YtfilandehjmikaaDoorSpC
namespace Go.Proofs.YtfilandehjmikaaDoor.Asc
open Go.RowKit Go.Proofs.YtfilandehjmikaaDoor.Sx
theorem cEnd_16b_0 : ([0, 1, 2, 3].all fun j => cEnd true false 8 j) = true := by kernel_rfl
theorem cEnd_16b_1 : ([4, 5, 6].all fun j => cEnd true false 8 j) = true := by kernel_rfl
theorem cEnd_16b_2 : ([7, 8, 9].all fun j => cEnd true false 8 j) = true := by kernel_rfl
end Go.Proofs.YtfilandehjmikaaDoor.Asc
