/- The closed runs over the specification's Crypt: ends of blocks of 16 bytes. No condition. -/
import Derived.Test.YtfilandehjmikaaDoorSpC
namespace Go.Proofs.YtfilandehjmikaaDoor.Asc
open Go.RowKit Go.Proofs.YtfilandehjmikaaDoor.Sx
theorem cEnd_16c_0 : ([0, 1, 2, 3].all fun j => cEnd true true 8 j) = true := by kernel_rfl
theorem cEnd_16c_1 : ([4, 5, 6].all fun j => cEnd true true 8 j) = true := by kernel_rfl
theorem cEnd_16c_2 : ([7, 8, 9].all fun j => cEnd true true 8 j) = true := by kernel_rfl
end Go.Proofs.YtfilandehjmikaaDoor.Asc
