/- expText: strconv.FormatFloat at 'e', three digits. -/
import Derived.Test.YthggdkpikjekmaaGreatRDoorFtoa
import Derived.Lib.SlBytesRow
import Derived.Lib.BufferRead
namespace Go.Proofs.YthggdkpikjekmaaGreatRDoor
open Go.RowKit Go.Lib
set_option maxRecDepth 100000
set_option linter.unusedVariables false

theorem ff_core (x : Nat) (l : List UInt8) (w : World) (hT : Tabs w)
    (hF : ∀ v, Tabs v → w.heap.size ≤ v.heap.size → ∀ A c, v.ownsRow w.heap.size 5 1 (.slice A 0 c) 0 [] → Calls Tryz.prog 83 #[.slice A 0 c, .float .f64 x, .int .u8 101, .int .i64 3] v (EfgPost v w.heap.size l)) :
    Calls Tryz.prog 69 #[.float .f64 x, .int .u8 101, .int .i64 3, .int .i64 64] w fun e w' => e = .returned (.string ⟨l.toArray⟩) ∧ Below w.heap.size w w' := by
  have HT := Lib.hid hT
  have HF := Lib.hid hF
  clear hT hF
  go_enter Tryz.func69, Tryz.ntmps69
  go_wp2_with fail
  rw [show (max (7:Int) 24) = 24 from rfl]
  obtain ⟨i0, hi, hz0, hz1, hz2⟩ := info_parts info_byte
  obtain ⟨wm, hrun, hom, hgm⟩ := run_makeSlice_owned (P := Tryz.prog) (w := w) w.heap.size 22 5 i0 (.int .u8 0) 1 Tryz.underlying22 hi hz0 hz1 .i64 .i64 24 (by omega) (by omega) (by unfold maxLen; omega) (Nat.le_refl _)
  have hrun' : (Instr.makeSlice 22 (.int .i64 0) (.int .i64 24)).run Tryz.prog w = _ := hrun
  rw [hrun']
  simp only [Result.andThen_ok]
  have hbm : Below w.heap.size w wm := (Below.refl _ _).grown hgm (Nat.le_refl _) (fun k hk => by simp at hk)
  have HOM := Lib.hid hom
  clear hom hrun hrun'
  go_wp2_with fail
  refine (HF.out wm (HT.out.below hbm (Nat.le_trans (by decide) HT.out.size)) hbm.size _ _ HOM.out).mono ?_
  rintro e w2 ⟨v, rfl, ⟨B, dl, hbuf⟩, hb2⟩
  have hcv : (convert 22 9 v).run Tryz.prog w2 = .ok (.string ⟨l.toArray⟩) w2 := by
    rcases hbuf.own.2 with ⟨rfl, h0⟩ | ⟨g, cap, cur, rfl, _⟩
    · have e : l = [] := List.length_eq_zero_iff.1 h0
      subst e
      exact run_convert_nil_bytes w2 _ _ 5 0 Tryz.underlying22 Tryz.underlying5 Tryz.underlying9
    · refine run_convert_whole w2 _ 5 _ Tryz.underlying22 Tryz.underlying5 Tryz.underlying9 g 0 ⟨l.toArray⟩ (fun i h => ?_) cap
      have := hbuf.own.cells rfl i (byteV (l[i]'h)) (by rw [List.getElem?_map, List.getElem?_eq_getElem h]; rfl)
      rw [Addr.add_lit] at this
      exact this
  have hb3 : Below w.heap.size w w2 := hbm.trans hb2
  go_wp2_with fail
  go_ret
  exact ⟨rfl, hb3⟩

/-- What expText gives. -/
theorem exp_of (x : Nat) (l : List UInt8) (w : World) (hF : Calls Tryz.prog 69 #[.float .f64 x, .int .u8 101, .int .i64 3, .int .i64 64] w fun e w' => e = .returned (.string ⟨l.toArray⟩) ∧ Below w.heap.size w w') :
    Calls Tryz.prog 34 #[.float .f64 x] w fun e w' => e = .returned (.string ⟨l.toArray⟩) ∧ Below w.heap.size w w' := by
  have HF := Lib.hid hF
  clear hF
  have HS : Hid (Calls Tryz.prog 51 #[.float .f64 x, .int .u8 101, .int .i64 3, .int .i64 64] w fun e w' => e = .returned (.string ⟨l.toArray⟩) ∧ Below w.heap.size w w') := by
    refine Lib.hid ?_
    go_enter Tryz.func51, Tryz.ntmps51
    go_wp2_with fail
    refine HF.out.mono ?_
    rintro e w2 ⟨rfl, hb⟩
    go_wp2_with fail
    go_ret
    exact ⟨rfl, hb⟩
  clear HF
  go_enter Tryz.func34, Tryz.ntmps34
  go_wp2_with fail
  refine HS.out.mono ?_
  rintro e w2 ⟨rfl, hb⟩
  go_wp2_with fail
  go_ret
  exact ⟨rfl, hb⟩
end Go.Proofs.YthggdkpikjekmaaGreatRDoor
