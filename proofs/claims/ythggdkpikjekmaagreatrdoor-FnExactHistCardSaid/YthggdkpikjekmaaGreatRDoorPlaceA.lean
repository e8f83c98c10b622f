/- The bucket of each value, by the kernel: part A. -/
import Derived.Test.YthggdkpikjekmaaGreatRDoorPlace
namespace Go.Proofs.YthggdkpikjekmaaGreatRDoor
theorem all0 : allAt 0 = true := by kernel_rfl
theorem all1 : allAt 1 = true := by kernel_rfl
theorem all2 : allAt 2 = true := by kernel_rfl
theorem all3 : allAt 3 = true := by kernel_rfl
end Go.Proofs.YthggdkpikjekmaaGreatRDoor
