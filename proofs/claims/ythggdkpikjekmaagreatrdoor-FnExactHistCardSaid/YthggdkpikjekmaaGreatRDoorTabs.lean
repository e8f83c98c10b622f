/- The library's tables as the world holds them. -/
import Derived.Test.YthggdkpikjekmaaGreatRDoorUsc
import Derived.Test.YthggdkpikjekmaaGreatRDoorHist
import Derived.Lib.LaidTab
import GoSem.PinnedTables
namespace Go.Proofs.YthggdkpikjekmaaGreatRDoor
open Go.RowKit Go.Lib
set_option maxRecDepth 100000

theorem g_pow : Tryz.prog.globalNamed "internal/strconv.uint64pow10" = some 0 := by kernel_rfl

/-- What the rows' list of variables gives. -/
structure Tabs (w : World) : Prop where
  size : 8 ≤ w.heap.size
  pow : Lib.TabIs Tryz.prog w "internal/strconv.uint64pow10" .u64 Lib.pow10Tab
  opt : w.cell? ⟨4, 0, none⟩ = some (.bool true)
  tab : ∀ i hi lo, Go.Pinned.pow10Rows[i]? = some (hi, lo) → TabAt w i hi lo

theorem Tabs.keep {w w' : World} (h : Tabs w) (hz : w.heap.size ≤ w'.heap.size) (hk : ∀ k, k < 8 → w'.heap[k]? = w.heap[k]?) : Tabs w' := by
  refine ⟨Nat.le_trans h.size hz, ?_, (World.cell?_of_block (a := ⟨4, 0, none⟩) (hk _ (by show 4 < 8; omega))).trans h.opt, fun i hi lo hr => ?_⟩
  · have h0 := h.pow
    unfold Lib.TabIs World.var? at h0 ⊢
    rw [g_pow] at h0 ⊢
    simp only [Option.bind_some] at h0 ⊢
    rw [hk _ (by omega)]
    exact h0
  · obtain ⟨h1, h2⟩ := h.tab i hi lo hr
    exact ⟨(World.cell?_of_block (a := ⟨6, i * 2, none⟩) (hk _ (by show 6 < 8; omega))).trans h1,
      (World.cell?_of_block (a := ⟨6, i * 2 + 1, none⟩) (hk _ (by show 6 < 8; omega))).trans h2⟩

theorem Tabs.below {w w' : World} {B : Nat} (h : Tabs w) (hb : Below B w w') (hB : 8 ≤ B) : Tabs w' := h.keep hb.size fun k hk => hb.block k (by omega)
theorem Tabs.alloc {w : World} (h : Tabs w) (o : Obj) : Tabs (w.alloc o) := h.keep (by simp) fun k hk => Below.heap_alloc _ _ _ (by have := h.size; omega)
theorem Tabs.drewN {w : World} (h : Tabs w) (n : Nat) : Tabs (w.drewN n) := h.keep (Nat.le_refl _) fun _ _ => rfl
theorem Tabs.drew {w : World} (h : Tabs w) : Tabs w.drew := h.keep (Nat.le_refl _) fun _ _ => rfl
theorem Tabs.keeps {S : Nat → Prop} {w w' : World} (h : Tabs w) (hb : Keeps S w w') (hS : ∀ k, S k → 8 ≤ k) : Tabs w' :=
  h.keep hb.size fun k hk => hb.block k (by have := h.size; omega) (fun e => by have := hS k e; omega)

theorem Tabs.four {w : World} (h : Tabs w) : w.cell? ⟨0, 4, none⟩ = some (.int .u64 10000) := h.pow.cell g_pow 4 (by decide)
end Go.Proofs.YthggdkpikjekmaaGreatRDoor
