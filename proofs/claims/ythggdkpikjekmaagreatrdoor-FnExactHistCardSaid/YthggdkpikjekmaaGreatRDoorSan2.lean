import Derived.Test.YthggdkpikjekmaaGreatRDoorSane
namespace Go.Proofs.YthggdkpikjekmaaGreatRDoor
open Go.RowKit Go.Lib
set_option maxRecDepth 100000
theorem sane_any (w : World) :
    Calls Tryz.prog 7 #[] w fun e w' => e = .returned (.bool true) ∧ Below w.heap.size w w' := by
  have HP : Hid (∀ W : World, Below w.heap.size w W → W.cell? ⟨w.heap.size, 0, none⟩ = some (.string ⟨#[97]⟩) → W.cell? ⟨w.heap.size + 1, 0, none⟩ = some (.int .i64 3) → W.heap.size = w.heap.size + 2 →
      Calls Tryz.prog 14 #[.slice (some ⟨w.heap.size, 0, none⟩) 1 1, .slice (some ⟨w.heap.size + 1, 0, none⟩) 1 1] W fun e w' => e = .returned (.string ⟨#[97, 32, 51, 10]⟩) ∧ Below w.heap.size w w') :=
    Lib.hid fun W hb h1 h2 hz => (page_one _ _ 1 1 W h1 h2 (by omega) (by omega)).mono fun e w' h => ⟨h.1, hb.trans (h.2.mono hb.size)⟩
  go_enter Tryz.func7, Tryz.ntmps7
  go_wp2_with fail
  have en : w.heap.size + 1 = (w.alloc (.cells #[.string ⟨#[97]⟩] 9)).heap.size := by simp
  refine (HP.out _ (((Below.refl _ _).alloc (Nat.le_refl _) _).alloc (by simp) _) ((World.cell?_alloc_lt _ _ _ (by simp)).trans ((World.cell?_alloc_new _ _ _ _).trans rfl)) (by rw [en]; exact (World.cell?_alloc_new _ _ _ _).trans rfl) (by simp)).mono ?_
  clear HP en
  rintro e w4 ⟨rfl, hb4⟩
  simp only []
  go_at_K
  go_wp2_with fail
  go_ret
  exact ⟨rfl, hb4⟩
end Go.Proofs.YthggdkpikjekmaaGreatRDoor
