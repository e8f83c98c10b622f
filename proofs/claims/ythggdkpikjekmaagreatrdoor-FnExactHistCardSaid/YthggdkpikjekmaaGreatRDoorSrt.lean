/- The sort of one metric. -/
import Derived.Test.YthggdkpikjekmaaGreatRDoorWr
namespace Go.Proofs.YthggdkpikjekmaaGreatRDoor
open Go.RowKit Go.Lib
set_option maxRecDepth 100000
set_option linter.unusedVariables false

theorem ins_one (v f : Value) (w : World) :
    Calls Tryz.prog 76 #[v, .int .i64 0, .int .i64 1, f] w fun e w' => e = .returned (.tuple #[]) ∧ w = w' := by
  go_enter Tryz.func76, Tryz.ntmps76
  go_wp2_with fail
  refine wp_loop_rounds 1 ?_
  rw [rounds_succ]
  go_wp2_with fail
  go_end0
  exact ⟨rfl, rfl⟩

theorem stable_one (v f : Value) (w : World) :
    Calls Tryz.prog 60 #[v, .int .i64 1, f] w fun e w' => e = .returned (.tuple #[]) ∧ w = w' := by
  go_enter Tryz.func60, Tryz.ntmps60
  go_wp2_with fail
  refine wp_loop_rounds 1 ?_
  rw [rounds_succ]
  go_wp2_with (go_at_call 76; refine (ins_one _ _ _).mono ?_; rintro e w' ⟨rfl, rfl⟩)
  refine wp_loop_rounds 1 ?_
  rw [rounds_succ]
  go_wp2_with fail
  go_end0
  exact ⟨rfl, rfl⟩

theorem sort_one (g c : Nat) (f : Value) (w : World) :
    Calls Tryz.prog 40 #[.slice (some ⟨g, 0, none⟩) 1 c, f] w fun e w' => e = .returned (.tuple #[]) ∧ w = w' := by
  go_enter Tryz.func40, Tryz.ntmps40
  go_wp2_with (go_at_call 60; refine (stable_one _ _ _).mono ?_; rintro e w' ⟨rfl, rfl⟩)
  go_end0
  exact ⟨rfl, rfl⟩

theorem meta_off (a b c : Value) (w : World) :
    Calls Tryz.prog 44 #[a, .bool false, b, c] w fun e w' => e = .returned (.tuple #[]) ∧ w = w' := by
  go_enter Tryz.func44, Tryz.ntmps44
  go_wp2_with fail
  refine bodyPost_ret (results_none rfl _ _ _) rfl ?_
  exact ⟨rfl, rfl⟩
end Go.Proofs.YthggdkpikjekmaaGreatRDoor
