/- The closed runs over the specification's Crypt: the ends of blocks of 8 bytes. No condition. -/
import Derived.Test.YtfilandehjmikaaDoorSpC
namespace Go.Proofs.YtfilandehjmikaaDoor.Asc
open Go.RowKit Go.Proofs.YtfilandehjmikaaDoor.Sx
noncomputable def cEnds (two back : Bool) (r : Nat) (l : List Nat) : Bool := l.all fun j => cEnd two back r j
theorem cEnd_8a : cEnds false false 6 [0, 1, 2, 3] = true := by kernel_rfl
theorem cEnd_8b : cEnds false false 6 [4, 5, 6, 7] = true := by kernel_rfl
theorem cEnd_8c : cEnds false true 6 [0, 1, 2, 3] = true := by kernel_rfl
theorem cEnd_8d : cEnds false true 6 [4, 5, 6, 7] = true := by kernel_rfl
end Go.Proofs.YtfilandehjmikaaDoor.Asc
