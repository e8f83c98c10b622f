/- The bucket of each value, by the kernel: part B. -/
import Derived.Test.YthggdkpikjekmaaGreatRDoorPlace
namespace Go.Proofs.YthggdkpikjekmaaGreatRDoor
theorem all4 : allAt 4 = true := by kernel_rfl
theorem all5 : allAt 5 = true := by kernel_rfl
theorem all6 : allAt 6 = true := by kernel_rfl
theorem all7 : allAt 7 = true := by kernel_rfl
end Go.Proofs.YthggdkpikjekmaaGreatRDoor
