/- Update puts a value into one bucket: the walk. -/
import Derived.Test.YthggdkpikjekmaaGreatRDoorLog
namespace Go.Proofs.YthggdkpikjekmaaGreatRDoor
open Go.RowKit
set_option maxRecDepth 100000

theorem run_store_float (P : Program) (w : World) (a : Addr) (m : Mode) (k : FloatKind) (b : Nat) : (store a (.float k b) m).run P w = stored P w a (.float k b) m := run_store P w a _ m rfl
attribute [local go_sem] run_store_float

/-- The same but for the count of draws. -/
def SameMem (a b : World) : Prop := a.heap = b.heap ∧ a.os = b.os ∧ a.output = b.output ∧ a.tape = b.tape

set_option maxHeartbeats 400000 in
theorem Update_zero (b l s s' : Nat) (w : World)
    (hl : w.cell? ⟨b, 27, none⟩ = some (.int .u64 l)) (hlf : w.frozen? ⟨b, 27, none⟩ = false) (hll : (l : Int) + 1 ≤ 18446744073709551615)
    (hs : w.cell? ⟨b, 29, none⟩ = some (.float .f64 s)) (hsf : w.frozen? ⟨b, 29, none⟩ = false) (hadd : fAdd s 0 = some s') :
    Calls Tryz.prog 21 #[.pointer (some ⟨b, 0, none⟩), .float .f64 0] w fun e w' => e = .returned (.tuple #[]) ∧ w' = ((w.setCell ⟨b, 29, none⟩ (.float .f64 s')).setCell ⟨b, 27, none⟩ (.int .u64 (l + 1))) := by
  have h1 : (FloatKind.f64.format.order 0 0 != some .eq) = false := by decide
  have h2 : (FloatKind.f64.format.order 0 0 == some .lt) = false := by decide
  have h3 : (FloatKind.f64.format.order 18442240474082181120 0 == some .lt) = true := by decide
  have r1 := fun w => run_float_arith (P := Tryz.prog) w .sub 36 .f64 18442240474082181120 13844628204490326016 18442240474082181120 (by decide)
  have r2 := fun w => run_float_arith (P := Tryz.prog) w .mul 36 .f64 18442240474082181120 4625759767262920704 18442240474082181120 (by decide)
  replace hadd := fun w => run_float_arith (P := Tryz.prog) w _ 36 _ _ _ _ hadd
  go_enter Tryz.func21, Tryz.ntmps21
  go_wp2_with (first
    | (go_at_call 32; refine (isNaN_any _ _).mono ?_; rintro e w' ⟨rfl, rfl⟩)
    | (go_at_call 33; refine (Log10_zero _).mono ?_; rintro e w' ⟨rfl, rfl⟩))
  go_end0
  exact ⟨rfl, rfl⟩

/-- Eighteen counters at zero. -/
abbrev zeroList : List Value := [.int .u64 0, .int .u64 0, .int .u64 0, .int .u64 0, .int .u64 0, .int .u64 0, .int .u64 0, .int .u64 0, .int .u64 0, .int .u64 0, .int .u64 0, .int .u64 0, .int .u64 0, .int .u64 0, .int .u64 0, .int .u64 0, .int .u64 0, .int .u64 0]
theorem zeroList_eq : zeroList = List.replicate 18 (.int .u64 0) := rfl
theorem zeroList_at (j : Nat) (hj : j < 18) : zeroList[j]? = some (.int .u64 0) := by
  rw [zeroList_eq, List.getElem?_replicate, if_pos hj]

set_option maxHeartbeats 1000000 in
theorem Update_there (b g N n s s' v lg d bi c : Nat) (w : World) (hN : N < 486)
    (hnan : (FloatKind.f64.format.order v v != some .eq) = false) (hneg : (FloatKind.f64.format.order v 0 == some .lt) = false)
    (hlg : log10O v = some lg) (hd : fSub lg 13844628204490326016 = some d) (hbi : fMul d 4625759767262920704 = some bi)
    (hlow : (FloatKind.f64.format.order bi 0 == some .lt) = false) (hup : (FloatKind.f64.format.order bi 4647257418609197056 == some .gt || FloatKind.f64.format.order bi 4647257418609197056 == some .eq) = false)
    (hcv : floatToIntVal .f64 bi .u64 = some (n : Int)) (hedge : (FloatKind.f64.format.order bi (floatOfInt .f64 ((N : Int) + 1)) == some .eq) = true) (hn : n = N + 1)
    (hp : w.cell? ⟨b, N / 18, none⟩ = some (.pointer (some ⟨g, 0, none⟩)))
    (hc : w.cell? ⟨g, N % 18, none⟩ = some (.int .u64 c)) (hcf : w.frozen? ⟨g, N % 18, none⟩ = false) (hcc : (c : Int) ≤ 1000)
    (hs : w.cell? ⟨b, 29, none⟩ = some (.float .f64 s)) (hsf : w.frozen? ⟨b, 29, none⟩ = false) (hadd : fAdd s v = some s') :
    Calls Tryz.prog 21 #[.pointer (some ⟨b, 0, none⟩), .float .f64 v] w fun e w' => e = .returned (.tuple #[]) ∧ SameMem w' ((w.setCell ⟨b, 29, none⟩ (.float .f64 s')).setCell ⟨g, N % 18, none⟩ (.int .u64 (c + 1))) := by
  replace hd := fun w => run_float_arith (P := Tryz.prog) w _ 36 _ _ _ _ hd
  replace hbi := fun w => run_float_arith (P := Tryz.prog) w _ 36 _ _ _ _ hbi
  replace hadd := fun w => run_float_arith (P := Tryz.prog) w _ 36 _ _ _ _ hadd
  replace hcv := fun w => run_convert_float_int (P := Tryz.prog) w 36 75 .f64 .u64 bi n (by rw [Tryz.underlying36]; rfl) Tryz.underlying75 hcv
  subst hn
  have hpos : (0 : Int) < (N + 1 : Nat) := by omega
  go_enter Tryz.func21, Tryz.ntmps21
  go_wp2_with (first
    | (go_at_call 32; refine (isNaN_any _ _).mono ?_; rintro e w' ⟨rfl, rfl⟩)
    | (go_at_call 33; refine (Log10_any _ _ hlg _).mono ?_; rintro e w' ⟨rfl, rfl⟩))
  go_region
  all_goals (go_wp2; go_end0; exact ⟨rfl, rfl, rfl, rfl, rfl⟩)
set_option maxHeartbeats 1000000 in
theorem Update_new (b N n s s' v lg d bi : Nat) (w : World) (hN : N < 486)
    (hnan : (FloatKind.f64.format.order v v != some .eq) = false) (hneg : (FloatKind.f64.format.order v 0 == some .lt) = false)
    (hlg : log10O v = some lg) (hd : fSub lg 13844628204490326016 = some d) (hbi : fMul d 4625759767262920704 = some bi)
    (hlow : (FloatKind.f64.format.order bi 0 == some .lt) = false) (hup : (FloatKind.f64.format.order bi 4647257418609197056 == some .gt || FloatKind.f64.format.order bi 4647257418609197056 == some .eq) = false)
    (hcv : floatToIntVal .f64 bi .u64 = some (n : Int)) (hedge : (FloatKind.f64.format.order bi (floatOfInt .f64 ((N : Int) + 1)) == some .eq) = true) (hn : n = N + 1)
    (hb : b < w.heap.size) (hp : w.cell? ⟨b, N / 18, none⟩ = some (.pointer none)) (hpf : w.frozen? ⟨b, N / 18, none⟩ = false)
    (hs : w.cell? ⟨b, 29, none⟩ = some (.float .f64 s)) (hsf : w.frozen? ⟨b, 29, none⟩ = false) (hadd : fAdd s v = some s') :
    Calls Tryz.prog 21 #[.pointer (some ⟨b, 0, none⟩), .float .f64 v] w fun e w' => e = .returned (.tuple #[]) ∧ SameMem w' (((w.setCell ⟨b, 29, none⟩ (.float .f64 s')).setCell ⟨b, N / 18, none⟩ (.pointer (some ⟨w.heap.size, 0, none⟩))).alloc (.cells (zeroList.set (N % 18) (.int .u64 1)).toArray 76)) := by
  replace hd := fun w => run_float_arith (P := Tryz.prog) w _ 36 _ _ _ _ hd
  replace hbi := fun w => run_float_arith (P := Tryz.prog) w _ 36 _ _ _ _ hbi
  replace hadd := fun w => run_float_arith (P := Tryz.prog) w _ 36 _ _ _ _ hadd
  replace hcv := fun w => run_convert_float_int (P := Tryz.prog) w 36 75 .f64 .u64 bi n (by rw [Tryz.underlying36]; rfl) Tryz.underlying75 hcv
  subst hn
  have hpos : (0 : Int) < (N + 1 : Nat) := by omega
  have hz : ((((w.setCell ⟨b, 29, none⟩ (.float .f64 s')).setCell ⟨b, N / 18, none⟩ (.pointer (some ⟨w.heap.size, 0, none⟩)))).alloc (.cells #[.int .u64 0, .int .u64 0, .int .u64 0, .int .u64 0, .int .u64 0, .int .u64 0, .int .u64 0, .int .u64 0, .int .u64 0, .int .u64 0, .int .u64 0, .int .u64 0, .int .u64 0, .int .u64 0, .int .u64 0, .int .u64 0, .int .u64 0, .int .u64 0] 76)).cell? ⟨w.heap.size, N % 18, none⟩ = some (.int .u64 0) := by
    have := World.cell?_alloc_new ((w.setCell ⟨b, 29, none⟩ (.float .f64 s')).setCell ⟨b, N / 18, none⟩ (.pointer (some ⟨w.heap.size, 0, none⟩))) zeroList.toArray 76 (N % 18)
    rw [List.getElem?_toArray, zeroList_at _ (Nat.mod_lt N (by omega : 18 > 0))] at this
    simpa using this
  go_enter Tryz.func21, Tryz.ntmps21
  go_wp2_with (first
    | (go_at_call 32; refine (isNaN_any _ _).mono ?_; rintro e w' ⟨rfl, rfl⟩)
    | (go_at_call 33; refine (Log10_any _ _ hlg _).mono ?_; rintro e w' ⟨rfl, rfl⟩))
  go_region
  all_goals (go_wp2; go_end0; exact ⟨rfl, rfl, rfl, rfl, rfl⟩)
set_option maxHeartbeats 1000000 in
theorem Update_there2 (b g N n s s' v lg d bi c : Nat) (w : World) (hN : N < 486)
    (hnan : (FloatKind.f64.format.order v v != some .eq) = false) (hneg : (FloatKind.f64.format.order v 0 == some .lt) = false)
    (hlg : log10O v = some lg) (hd : fSub lg 13844628204490326016 = some d) (hbi : fMul d 4625759767262920704 = some bi)
    (hlow : (FloatKind.f64.format.order bi 0 == some .lt) = false) (hup : (FloatKind.f64.format.order bi 4647257418609197056 == some .gt || FloatKind.f64.format.order bi 4647257418609197056 == some .eq) = false)
    (hcv : floatToIntVal .f64 bi .u64 = some (n : Int)) (hedge : (FloatKind.f64.format.order bi (floatOfInt .f64 (N : Int)) == some .eq) = false) (hn : n = N)
    (hp : w.cell? ⟨b, N / 18, none⟩ = some (.pointer (some ⟨g, 0, none⟩)))
    (hc : w.cell? ⟨g, N % 18, none⟩ = some (.int .u64 c)) (hcf : w.frozen? ⟨g, N % 18, none⟩ = false) (hcc : (c : Int) ≤ 1000)
    (hs : w.cell? ⟨b, 29, none⟩ = some (.float .f64 s)) (hsf : w.frozen? ⟨b, 29, none⟩ = false) (hadd : fAdd s v = some s') :
    Calls Tryz.prog 21 #[.pointer (some ⟨b, 0, none⟩), .float .f64 v] w fun e w' => e = .returned (.tuple #[]) ∧ SameMem w' ((w.setCell ⟨b, 29, none⟩ (.float .f64 s')).setCell ⟨g, N % 18, none⟩ (.int .u64 (c + 1))) := by
  replace hd := fun w => run_float_arith (P := Tryz.prog) w _ 36 _ _ _ _ hd
  replace hbi := fun w => run_float_arith (P := Tryz.prog) w _ 36 _ _ _ _ hbi
  replace hadd := fun w => run_float_arith (P := Tryz.prog) w _ 36 _ _ _ _ hadd
  replace hcv := fun w => run_convert_float_int (P := Tryz.prog) w 36 75 .f64 .u64 bi n (by rw [Tryz.underlying36]; rfl) Tryz.underlying75 hcv
  replace hn := hn.symm
  subst hn
  go_enter Tryz.func21, Tryz.ntmps21
  go_wp2_with (first
    | (go_at_call 32; refine (isNaN_any _ _).mono ?_; rintro e w' ⟨rfl, rfl⟩)
    | (go_at_call 33; refine (Log10_any _ _ hlg _).mono ?_; rintro e w' ⟨rfl, rfl⟩))
  go_region
  all_goals (go_wp2; go_end0; exact ⟨rfl, rfl, rfl, rfl, rfl⟩)
set_option maxHeartbeats 1000000 in
theorem Update_new2 (b N n s s' v lg d bi : Nat) (w : World) (hN : N < 486)
    (hnan : (FloatKind.f64.format.order v v != some .eq) = false) (hneg : (FloatKind.f64.format.order v 0 == some .lt) = false)
    (hlg : log10O v = some lg) (hd : fSub lg 13844628204490326016 = some d) (hbi : fMul d 4625759767262920704 = some bi)
    (hlow : (FloatKind.f64.format.order bi 0 == some .lt) = false) (hup : (FloatKind.f64.format.order bi 4647257418609197056 == some .gt || FloatKind.f64.format.order bi 4647257418609197056 == some .eq) = false)
    (hcv : floatToIntVal .f64 bi .u64 = some (n : Int)) (hedge : (FloatKind.f64.format.order bi (floatOfInt .f64 (N : Int)) == some .eq) = false) (hn : n = N)
    (hb : b < w.heap.size) (hp : w.cell? ⟨b, N / 18, none⟩ = some (.pointer none)) (hpf : w.frozen? ⟨b, N / 18, none⟩ = false)
    (hs : w.cell? ⟨b, 29, none⟩ = some (.float .f64 s)) (hsf : w.frozen? ⟨b, 29, none⟩ = false) (hadd : fAdd s v = some s') :
    Calls Tryz.prog 21 #[.pointer (some ⟨b, 0, none⟩), .float .f64 v] w fun e w' => e = .returned (.tuple #[]) ∧ SameMem w' (((w.setCell ⟨b, 29, none⟩ (.float .f64 s')).setCell ⟨b, N / 18, none⟩ (.pointer (some ⟨w.heap.size, 0, none⟩))).alloc (.cells (zeroList.set (N % 18) (.int .u64 1)).toArray 76)) := by
  replace hd := fun w => run_float_arith (P := Tryz.prog) w _ 36 _ _ _ _ hd
  replace hbi := fun w => run_float_arith (P := Tryz.prog) w _ 36 _ _ _ _ hbi
  replace hadd := fun w => run_float_arith (P := Tryz.prog) w _ 36 _ _ _ _ hadd
  replace hcv := fun w => run_convert_float_int (P := Tryz.prog) w 36 75 .f64 .u64 bi n (by rw [Tryz.underlying36]; rfl) Tryz.underlying75 hcv
  replace hn := hn.symm
  subst hn
  have hz : ((((w.setCell ⟨b, 29, none⟩ (.float .f64 s')).setCell ⟨b, N / 18, none⟩ (.pointer (some ⟨w.heap.size, 0, none⟩)))).alloc (.cells #[.int .u64 0, .int .u64 0, .int .u64 0, .int .u64 0, .int .u64 0, .int .u64 0, .int .u64 0, .int .u64 0, .int .u64 0, .int .u64 0, .int .u64 0, .int .u64 0, .int .u64 0, .int .u64 0, .int .u64 0, .int .u64 0, .int .u64 0, .int .u64 0] 76)).cell? ⟨w.heap.size, N % 18, none⟩ = some (.int .u64 0) := by
    have := World.cell?_alloc_new ((w.setCell ⟨b, 29, none⟩ (.float .f64 s')).setCell ⟨b, N / 18, none⟩ (.pointer (some ⟨w.heap.size, 0, none⟩))) zeroList.toArray 76 (N % 18)
    rw [List.getElem?_toArray, zeroList_at _ (Nat.mod_lt N (by omega : 18 > 0))] at this
    simpa using this
  go_enter Tryz.func21, Tryz.ntmps21
  go_wp2_with (first
    | (go_at_call 32; refine (isNaN_any _ _).mono ?_; rintro e w' ⟨rfl, rfl⟩)
    | (go_at_call 33; refine (Log10_any _ _ hlg _).mono ?_; rintro e w' ⟨rfl, rfl⟩))
  go_region
  all_goals (go_wp2; go_end0; exact ⟨rfl, rfl, rfl, rfl, rfl⟩)
end Go.Proofs.YthggdkpikjekmaaGreatRDoor
