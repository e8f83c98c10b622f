/- What the rows' list of variables gives. -/
import Derived.Test.YthggdkpikjekmaaGreatRDoorTabs
import Derived.Test.YthggdkpikjekmaaGreatRDoorRows
import Derived.ProofKit
import Derived.OpenShut
import Derived.LaidMore
import Derived.Lay
import Derived.Lib.LaidTab
namespace Go.Proofs.YthggdkpikjekmaaGreatRDoor
open Go.RowKit Go.Lib
set_option maxRecDepth 100000

theorem tabs_of_laid {W : World} (h : laidMetH Tryz.prog Rows.fnCountsRow.laid W) : Tabs W := by
  rw [MakeChecks.laidMetH_plain _ _ _ (by kernel_rfl)] at h
  obtain ⟨ps, ⟨g1, t1, cs1, f1, p1, q1, hg1, ht1, hv1, hd1, ⟨g2, t2, cs2, f2, p2, q2, hg2, ht2, hv2, hd2, ⟨g3, t3, cs3, f3, p3, q3, hg3, ht3, hv3, hd3, ⟨g4, t4, cs4, f4, p4, q4, hg4, ht4, hv4, hd4, ⟨g5, t5, cs5, f5, p5, q5, hg5, ht5, hv5, hd5, ⟨g6, t6, cs6, f6, p6, q6, hg6, ht6, hv6, hd6, _⟩, _⟩, _⟩, _⟩, _⟩, _⟩, _, _⟩ := h
  clear hd1 hd2 hd5 hv1 hv2 ht1 ht2 ht5 hg1 hg2
  obtain rfl := Option.some.inj ((show Tryz.prog.globalNamed "internal/strconv.optimize" = some 4 by kernel_rfl).symm.trans hg3)
  obtain rfl := Option.some.inj ((show (Tryz.prog.globals[4]?).map (·.type) = some 4 by kernel_rfl).symm.trans ht3)
  obtain rfl := Option.some.inj ((show Tryz.prog.globalNamed "internal/strconv.uint64pow10" = some 0 by kernel_rfl).symm.trans hg4)
  obtain rfl := Option.some.inj ((show (Tryz.prog.globals[0]?).map (·.type) = some 117 by kernel_rfl).symm.trans ht4)
  obtain rfl := Option.some.inj ((show Tryz.prog.globalNamed "internal/strconv.pow10Tab" = some 6 by kernel_rfl).symm.trans hg6)
  obtain rfl := Option.some.inj ((show (Tryz.prog.globals[6]?).map (·.type) = some 176 by kernel_rfl).symm.trans ht6)
  have hg7 : Tryz.prog.globalNamed "internal/strconv.leftcheats" = some 7 := by kernel_rfl
  have hsz : 8 ≤ W.heap.size := by
    unfold World.var? at hv5
    rw [hg7] at hv5
    simp only [Option.bind_some] at hv5
    by_cases h : 7 < W.heap.size
    · omega
    · rw [Array.getElem?_eq_none (by omega)] at hv5
      cases hv5
  refine ⟨hsz, ?_, ?_, fun i hi lo hr => ?_⟩
  · unfold Lib.TabIs
    rw [hv4]
    have := Lib.cells_of_tab (k := .u64) (zs := Lib.pow10Tab) Tryz.underlying117 Tryz.underlying25 (by kernel_rfl) (by kernel_rfl) hd4
    rw [← this]
  · obtain ⟨b, hb, he⟩ := DataW.trod_bool Tryz.underlying4 hd3
    have e1 : b = true := by
      have := (Prod.mk.inj he).1
      have h2 : (Rows.laid_internal_strconv_optimize : DataW Unit) = .lit (.bool true) := rfl
      rw [h2] at this
      injection this with this
      injection this with this
      exact this.symm
    subst e1
    rw [World.var?_cell hg3 hv3 0]
    have : cs3[0]? = cs3.toList[0]? := by simp
    rw [this, hb]
    rfl
  · obtain ⟨xs, m, _, ex, _, hl, hel⟩ := DataW.trod_array Tryz.underlying176 hd6
    have c2 : Tryz.prog.cellsOf 175 = 2 := by kernel_rfl
    have c1 : Tryz.prog.cellsOf 25 = 1 := by kernel_rfl
    have hlen : Go.Pinned.pow10Rows.length = 696 := by kernel_rfl
    have hi696 : i < 696 := by
      obtain ⟨h, _⟩ := List.getElem?_eq_some_iff.1 hr
      omega
    have hE := hel i hi696
    have e3 : xs.map (·.1) = Go.Pinned.pow10Rows.map fun x => (.agg [.lit (.int .u64 x.1), .lit (.int .u64 x.2)] : DataW Unit) := (DataW.agg.inj (Prod.mk.inj ex).1).symm
    have e4 := congrArg (·[i]?) e3
    simp only [List.getElem?_map, hr, Option.map_some] at e4
    obtain ⟨x, hx, hx1⟩ := Option.map_eq_some_iff.1 e4
    rw [hx, c2] at hE
    obtain ⟨ys, n, _, ey, hl2, hyl, hfl⟩ := DataW.trod_struct Tryz.underlying175 hE
    rw [ey] at hx1
    have hy := DataW.agg.inj hx1
    have f0 := hfl 0 _ rfl
    have f1 := hfl 1 _ rfl
    have y0 := congrArg (·[0]?) hy
    have y1 := congrArg (·[1]?) hy
    simp only [List.getElem?_map, List.getElem?_cons_zero, List.getElem?_cons_succ] at y0 y1
    obtain ⟨a0, ha0, hb0⟩ := Option.map_eq_some_iff.1 y0
    obtain ⟨a1, ha1, hb1⟩ := Option.map_eq_some_iff.1 y1
    rw [ha0] at f0
    rw [ha1] at f1
    obtain ⟨z0, k0, r0, _⟩ := DataW.trod_int Tryz.underlying25 f0
    obtain ⟨z1, k1, r1, _⟩ := DataW.trod_int Tryz.underlying25 f1
    rw [r0] at hb0
    rw [r1] at hb1
    injection hb0 with hb0
    injection hb0 with _ hb0
    injection hb1 with hb1
    injection hb1 with _ hb1
    subst hb0
    subst hb1
    have g0 : (List.take (Tryz.prog.cellsOf 25) (List.drop 0 (List.take 2 (List.drop (i * 2) cs6.toList))))[0]? = some (.int .u64 hi) := congrArg (·[0]?) k0
    have g1 : (List.take (Tryz.prog.cellsOf 25) (List.drop 1 (List.take 2 (List.drop (i * 2) cs6.toList))))[0]? = some (.int .u64 lo) := congrArg (·[0]?) k1
    rw [c1] at g0 g1
    refine ⟨?_, ?_⟩
    · rw [World.var?_cell hg6 hv6 (i * 2), ← Array.getElem?_toList]
      simpa using g0
    · rw [World.var?_cell hg6 hv6 (i * 2 + 1), ← Array.getElem?_toList]
      simpa using g1
end Go.Proofs.YthggdkpikjekmaaGreatRDoor
