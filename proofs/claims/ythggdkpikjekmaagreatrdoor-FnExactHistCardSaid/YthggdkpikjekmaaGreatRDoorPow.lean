/- bucketMultiplier: the tenth's eighteenth root, as the code reckons it; Pow10(-9). -/
import Derived.Test.YthggdkpikjekmaaGreatRDoorLog
import Derived.StillTailTactics
import Derived.Deep.RegionWith
import Derived.Lib.Hide
namespace Go.Proofs.YthggdkpikjekmaaGreatRDoor
open Go.RowKit
set_option maxRecDepth 100000
set_option linter.unusedVariables false

theorem copysign_any (x y r : Nat) (hr : (bits BinOp.or IntKind.u64 (bits BinOp.andNot IntKind.u64 (x : Int) 9223372036854775808) (bits BinOp.and IntKind.u64 (y : Int) 9223372036854775808)).toNat = r) (w : World) :
    Calls Tryz.prog 113 #[.float .f64 x, .float .f64 y] w fun e w' => e = .returned (.float .f64 r) ∧ w = w' := by
  go_enter Tryz.func113, Tryz.ntmps113
  go_wp2_with (first
    | (go_at_call 110; refine (f64bits_any _ _).mono ?_; rintro e w' ⟨rfl, rfl⟩)
    | (go_at_call 70; refine (f64from_any _ _).mono ?_; rintro e w' ⟨rfl, rfl⟩))
  go_ret
  exact ⟨rfl, rfl⟩

theorem expmulti_one (w : World) (hL : ∀ w : World, Calls Tryz.prog 94 #[.float .f64 4607796996517101770, .int .i64 0] w fun e w' => e = .returned (.float .f64 4607796996517101770) ∧ w = w') :
    Calls Tryz.prog 139 #[.float .f64 4593776874231334021, .float .f64 0, .int .i64 0] w fun e w' => e = .returned (.float .f64 4607796996517101770) ∧ w = w' := by
  have e0 := fun w => run_float_arith (P := Tryz.prog) w _ 36 _ _ _ _ (show fSub 4593776874231334021 0 = some 4593776874231334021 by decide +kernel)
  have e1 := fun w => run_float_arith (P := Tryz.prog) w _ 36 _ _ _ _ (show fMul 4593776874231334021 4593776874231334021 = some 4580373789577254919 by decide +kernel)
  have e2 := fun w => run_float_arith (P := Tryz.prog) w _ 36 _ _ _ _ (show fMul 4580373789577254919 4496342204012209360 = some 4469616319094310440 by decide +kernel)
  have e3 := fun w => run_float_arith (P := Tryz.prog) w _ 36 _ _ _ _ (show fAdd 13743786778040626161 4469616319094310440 = some 13743783580243570424 by decide +kernel)
  have e4 := fun w => run_float_arith (P := Tryz.prog) w _ 36 _ _ _ _ (show fMul 4580373789577254919 13743783580243570424 = some 13717131055950165181 by decide +kernel)
  have e5 := fun w => run_float_arith (P := Tryz.prog) w _ 36 _ _ _ _ (show fAdd 4544508515198557740 13717131055950165181 = some 4544506519644301301 by decide +kernel)
  have e6 := fun w => run_float_arith (P := Tryz.prog) w _ 36 _ _ _ _ (show fMul 4580373789577254919 4544506519644301301 = some 4517715599763879343 by decide +kernel)
  have e7 := fun w => run_float_arith (P := Tryz.prog) w _ 36 _ _ _ _ (show fAdd 13791923578850950547 4517715599763879343 = some 13791921084332816444 by decide +kernel)
  have e8 := fun w => run_float_arith (P := Tryz.prog) w _ 36 _ _ _ _ (show fMul 4580373789577254919 13791921084332816444 = some 13765202257198824693 by decide +kernel)
  have e9 := fun w => run_float_arith (P := Tryz.prog) w _ 36 _ _ _ _ (show fAdd 4595172819793696085 13765202257198824693 = some 4595171182734227833 by decide +kernel)
  have e10 := fun w => run_float_arith (P := Tryz.prog) w _ 36 _ _ _ _ (show fMul 4580373789577254919 4595171182734227833 = some 4568433465611173222 by decide +kernel)
  have e11 := fun w => run_float_arith (P := Tryz.prog) w _ 36 _ _ _ _ (show fSub 4593776874231334021 4568433465611173222 = some 4593678639183133071 by decide +kernel)
  have e12 := fun w => run_float_arith (P := Tryz.prog) w _ 36 _ _ _ _ (show fMul 4593776874231334021 4593678639183133071 = some 4580273258662767337 by decide +kernel)
  have e13 := fun w => run_float_arith (P := Tryz.prog) w _ 36 _ _ _ _ (show fSub 4611686018427387904 4593678639183133071 = some 4611122191065813198 by decide +kernel)
  have e14 := fun w => run_float_arith (P := Tryz.prog) w _ 36 _ _ _ _ (show fQuo 4580273258662767337 4611122191065813198 = some 4576077906515074180 by decide +kernel)
  have e15 := fun w => run_float_arith (P := Tryz.prog) w _ 36 _ _ _ _ (show fSub 0 4576077906515074180 = some 13799449943369849988 by decide +kernel)
  have e16 := fun w => run_float_arith (P := Tryz.prog) w _ 36 _ _ _ _ (show fSub 13799449943369849988 4593776874231334021 = some 13817456678881986125 by decide +kernel)
  have e17 := fun w => run_float_arith (P := Tryz.prog) w _ 36 _ _ _ _ (show fSub 4607182418800017408 13817456678881986125 = some 4607796996517101770 by decide +kernel)
  go_enter Tryz.func139, Tryz.ntmps139
  go_wp2_with (go_at_call 94; refine (hL _).mono ?_; rintro e w' ⟨rfl, rfl⟩)
  go_ret
  exact ⟨rfl, rfl⟩

theorem ldexp_one (w : World) :
    Calls Tryz.prog 94 #[.float .f64 4607796996517101770, .int .i64 0] w fun e w' => e = .returned (.float .f64 4607796996517101770) ∧ w = w' := by
  have hp : plainB 4607796996517101770 = true := by decide +kernel
  obtain ⟨h1, h2, h3, h4⟩ := plainB_parts hp
  have e1 := fun w => run_float_arith (P := Tryz.prog) w _ 36 _ _ _ _ (show fMul 4607182418800017408 4607796996517101770 = some 4607796996517101770 by decide +kernel)
  have b1 : bits BinOp.and IntKind.i64 1023 2047 = 1023 := by decide +kernel
  have b2 : bits BinOp.andNot IntKind.u64 4607796996517101770 9218868437227405312 = 614577717084362 := by decide +kernel
  have b3 : bits BinOp.or IntKind.u64 614577717084362 4607182418800017408 = 4607796996517101770 := by decide +kernel
  have HL : Hid (∀ w : World, Calls Tryz.prog 116 #[.float .f64 4607796996517101770, .int .i64 0] w fun e w' => e = .returned (.float .f64 4607796996517101770) ∧ w = w') := by
    refine Lib.hid fun w => ?_
    go_enter Tryz.func116, Tryz.ntmps116
    go_wp2_with (first
      | (go_at_call 88; refine (isInf0_any _ _).mono ?_; rintro e w' ⟨rfl, rfl⟩)
      | (go_at_call 32; refine (isNaN_any _ _).mono ?_; rintro e w' ⟨rfl, rfl⟩)
      | (go_at_call 140; refine (normalize_any _ hp _).mono ?_; rintro e w' ⟨rfl, rfl⟩)
      | (go_at_call 110; refine (f64bits_any _ _).mono ?_; rintro e w' ⟨rfl, rfl⟩)
      | (go_at_call 70; refine (f64from_any _ _).mono ?_; rintro e w' ⟨rfl, rfl⟩))
    go_ret
    exact ⟨rfl, rfl⟩
  go_enter Tryz.func94, Tryz.ntmps94
  go_wp2_with (go_at_call 116; refine (HL.out _).mono ?_; rintro e w' ⟨rfl, rfl⟩)
  go_ret
  exact ⟨rfl, rfl⟩

theorem Exp_one (w : World) :
    Calls Tryz.prog 92 #[.float .f64 4593776874231334021] w fun e w' => e = .returned (.float .f64 4607796996517101770) ∧ w = w' := by
  have o1 : (FloatKind.f64.format.order 4593776874231334021 4593776874231334021 != some .eq) = false := by decide +kernel
  have o2 : (FloatKind.f64.format.order 4593776874231334021 4649454530587146735 == some .gt) = false := by decide +kernel
  have o3 : (FloatKind.f64.format.order 4593776874231334021 13873137513782915153 == some .lt) = false := by decide +kernel
  have o4 : (FloatKind.f64.format.order 13704453666088419328 4593776874231334021 == some .lt) = true := by decide +kernel
  have o5 : (FloatKind.f64.format.order 4593776874231334021 4481081629233643520 == some .lt) = false := by decide +kernel
  have o6 : (FloatKind.f64.format.order 4593776874231334021 0 == some .lt) = false := by decide +kernel
  have o7 : (FloatKind.f64.format.order 4593776874231334021 0 == some .gt) = true := by decide +kernel
  have z0 : floatOfInt .f64 0 = 0 := by decide +kernel
  have e1 := fun w => run_float_arith (P := Tryz.prog) w _ 36 _ _ _ _ (show fMul 4609176140021203710 4593776874231334021 = some 4595817191015107116 by decide +kernel)
  have e2 := fun w => run_float_arith (P := Tryz.prog) w _ 36 _ _ _ _ (show fAdd 4595817191015107116 4602678819172646912 = some 4604341111853789835 by decide +kernel)
  have e3 := fun w => run_float_arith (P := Tryz.prog) w _ 36 _ _ _ _ (show fMul 0 4604418534311723008 = some 0 by decide +kernel)
  have e4 := fun w => run_float_arith (P := Tryz.prog) w _ 36 _ _ _ _ (show fSub 4593776874231334021 0 = some 4593776874231334021 by decide +kernel)
  have e5 := fun w => run_float_arith (P := Tryz.prog) w _ 36 _ _ _ _ (show fMul 0 4461442080421002358 = some 0 by decide +kernel)
  have c1 := fun w => run_convert_float_int (P := Tryz.prog) w 36 3 .f64 .i64 4604341111853789835 0 (by rw [Tryz.underlying36]; rfl) Tryz.underlying3 (by decide +kernel)
  have HL : Hid (∀ w : World, Calls Tryz.prog 114 #[.float .f64 4593776874231334021] w fun e w' => e = .returned (.float .f64 4607796996517101770) ∧ w = w') := by
    refine Lib.hid fun w => ?_
    go_enter Tryz.func114, Tryz.ntmps114
    go_wp2_with (first
      | (go_at_call 32; refine (isNaN_any _ _).mono ?_; rintro e w' ⟨rfl, rfl⟩)
      | (go_at_call 139; refine (expmulti_one _ ldexp_one).mono ?_; rintro e w' ⟨rfl, rfl⟩))
    go_ret
    exact ⟨rfl, rfl⟩
  go_enter Tryz.func92, Tryz.ntmps92
  go_wp2_with (go_at_call 114; refine (HL.out _).mono ?_; rintro e w' ⟨rfl, rfl⟩)
  go_ret
  exact ⟨rfl, rfl⟩

theorem Modf_one (w : World) :
    Calls Tryz.prog 91 #[.float .f64 4588167220373341980] w fun e w' => e = .returned (.tuple #[.float .f64 0, .float .f64 4588167220373341980]) ∧ w = w' := by
  have o1 : (FloatKind.f64.format.order (absB 4588167220373341980) 4607182418800017408 == some .lt) = true := by decide +kernel
  have e1 := fun w => run_float_arith (P := Tryz.prog) w _ 36 _ _ _ _ (show fSub 4588167220373341980 0 = some 4588167220373341980 by decide +kernel)
  have HT : Hid (∀ w : World, Calls Tryz.prog 138 #[.float .f64 4588167220373341980] w fun e w' => e = .returned (.float .f64 0) ∧ w = w') := by
    refine Lib.hid fun w => ?_
    go_enter Tryz.func138, Tryz.ntmps138
    go_wp2_with (first
      | (go_at_call 89; refine (abs_any _ _).mono ?_; rintro e w' ⟨rfl, rfl⟩)
      | (go_at_call 113; refine (copysign_any _ _ 0 (by decide +kernel) _).mono ?_; rintro e w' ⟨rfl, rfl⟩))
    go_ret
    exact ⟨rfl, rfl⟩
  have HT2 : Hid (∀ w : World, Calls Tryz.prog 112 #[.float .f64 4588167220373341980] w fun e w' => e = .returned (.float .f64 0) ∧ w = w') := by
    refine Lib.hid fun w => ?_
    go_enter Tryz.func112, Tryz.ntmps112
    go_wp2_with (go_at_call 138; refine (HT.out _).mono ?_; rintro e w' ⟨rfl, rfl⟩)
    go_ret
    exact ⟨rfl, rfl⟩
  go_enter Tryz.func91, Tryz.ntmps91
  go_wp2_with (first
    | (go_at_call 112; refine (HT2.out _).mono ?_; rintro e w' ⟨rfl, rfl⟩)
    | (go_at_call 113; refine (copysign_any _ _ 4588167220373341980 (by decide +kernel) _).mono ?_; rintro e w' ⟨rfl, rfl⟩))
  go_ret2
  exact ⟨rfl, rfl⟩

theorem pow_one (w : World) :
    Calls Tryz.prog 71 #[.float .f64 4621819117588971520, .float .f64 4588167220373341980] w fun e w' => e = .returned (.float .f64 4607796996517101770) ∧ w = w' := by
  have a1 : absB 4588167220373341980 = 4588167220373341980 := by decide +kernel
  have b1 : fracB 4621819117588971520 = 4603804719079489536 := by decide +kernel
  have b2 : expB 4621819117588971520 = 4 := by decide +kernel
  have hp : plainB 4621819117588971520 = true := by decide +kernel
  have o1 : (FloatKind.f64.format.order 4588167220373341980 0 == some .eq) = false := by decide +kernel
  have o2 : (FloatKind.f64.format.order 4621819117588971520 4607182418800017408 == some .eq) = false := by decide +kernel
  have o3 : (FloatKind.f64.format.order 4588167220373341980 4607182418800017408 == some .eq) = false := by decide +kernel
  have o4 : (FloatKind.f64.format.order 4621819117588971520 4621819117588971520 != some .eq) = false := by decide +kernel
  have o5 : (FloatKind.f64.format.order 4588167220373341980 4588167220373341980 != some .eq) = false := by decide +kernel
  have o6 : (FloatKind.f64.format.order 4621819117588971520 0 == some .eq) = false := by decide +kernel
  have o7 : (FloatKind.f64.format.order (absB 4588167220373341980) 9218868437227405311 == some .gt) = false := by decide +kernel
  have o8 : (FloatKind.f64.format.order (absB 4621819117588971520) 9218868437227405311 == some .gt) = false := by decide +kernel
  have o9 : (FloatKind.f64.format.order 4588167220373341980 4602678819172646912 == some .eq) = false := by decide +kernel
  have o10 : (FloatKind.f64.format.order 4588167220373341980 13826050856027422720 == some .eq) = false := by decide +kernel
  have o11 : (FloatKind.f64.format.order 4588167220373341980 0 != some .eq) = true := by decide +kernel
  have o12 : (FloatKind.f64.format.order 4621819117588971520 0 == some .lt) = false := by decide +kernel
  have o13 : (FloatKind.f64.format.order 0 4890909195324358656 == some .gt || FloatKind.f64.format.order 0 4890909195324358656 == some .eq) = false := by decide +kernel
  have o14 : (FloatKind.f64.format.order 4588167220373341980 4602678819172646912 == some .gt) = false := by decide +kernel
  have o15 : (FloatKind.f64.format.order 4588167220373341980 0 == some .lt) = false := by decide +kernel
  have e1 := fun w => run_float_arith (P := Tryz.prog) w _ 36 _ _ _ _ (show fMul 4588167220373341980 4612367379483415830 = some 4593776874231334021 by decide +kernel)
  have c1 := fun w => run_convert_float_int (P := Tryz.prog) w 36 2 .f64 .i64 0 0 (by rw [Tryz.underlying36]; rfl) Tryz.underlying2 (by decide +kernel)
  have HLog := Lib.hid (Log_of 4621819117588971520 4612367379483415830 (log_any 4621819117588971520 4612367379483415830 (by decide +kernel)))
  have HF : Hid (∀ w : World, Calls Tryz.prog 93 #[.float .f64 4621819117588971520] w fun e w' => e = .returned (.tuple #[.float .f64 4603804719079489536, .int .i64 4]) ∧ w = w') := by
    refine Lib.hid fun w => ?_
    have := Frexp_any 4621819117588971520 hp w
    rw [b1, b2] at this
    exact this
  go_enter Tryz.func71, Tryz.ntmps71
  go_wp2_with (first
    | (go_at_call 32; refine (isNaN_any _ _).mono ?_; rintro e w' ⟨rfl, rfl⟩)
    | (go_at_call 88; refine (isInf0_any _ _).mono ?_; rintro e w' ⟨rfl, rfl⟩)
    | (go_at_call 89; refine (abs_any _ _).mono ?_; rintro e w' ⟨rfl, rfl⟩; rw [a1])
    | (go_at_call 91; refine (Modf_one _).mono ?_; rintro e w' ⟨rfl, rfl⟩)
    | (go_at_call 68; refine (HLog.out _).mono ?_; rintro e w' ⟨rfl, rfl⟩)
    | (go_at_call 92; refine (Exp_one _).mono ?_; rintro e w' ⟨rfl, rfl⟩)
    | (go_at_call 93; refine (HF.out _).mono ?_; rintro e w' ⟨rfl, rfl⟩)
    | (go_at_call 94; refine (ldexp_one _).mono ?_; rintro e w' ⟨rfl, rfl⟩))
  go_loop [7, 8, 11] (fun a b i => a = .float .f64 4607796996517101770 ∧ b = .int .i64 0 ∧ i = .int .i64 0) (fun _ _ _ => 0)
  case atStart => exact ⟨rfl, rfl, rfl⟩
  case round =>
    obtain ⟨rfl, rfl, rfl⟩ := hrel
    go_wp2_with (go_at_call 94; refine (ldexp_one _).mono ?_; rintro e w' ⟨rfl, rfl⟩)
    go_ret
    exact ⟨rfl, rfl⟩

theorem bucketMultiplier_any (w : World) :
    Calls Tryz.prog 36 #[] w fun e w' => e = .returned (.float .f64 4607796996517101770) ∧ w = w' := by
  have HP : Hid (∀ w : World, Calls Tryz.prog 56 #[.float .f64 4621819117588971520, .float .f64 4588167220373341980] w fun e w' => e = .returned (.float .f64 4607796996517101770) ∧ w = w') := by
    refine Lib.hid fun w => ?_
    go_enter Tryz.func56, Tryz.ntmps56
    go_wp2_with (go_at_call 71; refine (pow_one _).mono ?_; rintro e w' ⟨rfl, rfl⟩)
    go_ret
    exact ⟨rfl, rfl⟩
  go_enter Tryz.func36, Tryz.ntmps36
  go_wp2_with (go_at_call 56; refine (HP.out _).mono ?_; rintro e w' ⟨rfl, rfl⟩)
  go_ret
  exact ⟨rfl, rfl⟩

/-- A cell of a block that the call has made. -/
def NewCell (x : Nat) (i n : Nat) (w : World) (e : Ending) (w' : World) : Prop :=
  ∃ g, e = .returned (.slice (some ⟨g, 0, none⟩) n n) ∧ w.heap.size ≤ g ∧ g < w'.heap.size ∧ w'.cell? ⟨g, i, none⟩ = some (.float .f64 x) ∧ Below w.heap.size w w'

theorem negtab (w : World) : Calls Tryz.prog 54 #[] w (NewCell 4607182418800017408 0 11 w) := by
  go_enter Tryz.func54, Tryz.ntmps54
  go_wp2
  go_ret
  exact ⟨w.heap.size, rfl, Nat.le_refl _, by simp, (World.cell?_alloc_new w _ _ _).trans rfl, (Below.refl _ _).alloc (Nat.le_refl _) _⟩

theorem tab9 (w : World) : Calls Tryz.prog 53 #[] w (NewCell 4741671816366391296 9 32 w) := by
  go_enter Tryz.func53, Tryz.ntmps53
  go_wp2
  go_ret
  exact ⟨w.heap.size, rfl, Nat.le_refl _, by simp, (World.cell?_alloc_new w _ _ _).trans rfl, (Below.refl _ _).alloc (Nat.le_refl _) _⟩

set_option maxHeartbeats 1600000 in
/-- Pow10(-9). -/
theorem pow10_neg9 (w : World) :
    Calls Tryz.prog 35 #[.int .i64 (-9)] w fun e w' => e = .returned (.float .f64 4472406533629990549) ∧ Below w.heap.size w w' := by
  have e1 := fun w => run_float_arith (P := Tryz.prog) w _ 36 _ _ _ _ (show fQuo 4607182418800017408 4741671816366391296 = some 4472406533629990549 by decide +kernel)
  go_enter Tryz.func35, Tryz.ntmps35
  go_wp2_with fail
  go_region_with (first
    | (go_at_call 54; refine (negtab _).mono ?_; rintro e w1 ⟨g1, rfl, hg1, hl1, hc1, hb1⟩)
    | (go_at_call 53; refine (tab9 _).mono ?_; rintro e w2 ⟨g2, rfl, hg2, hl2, hc2, hb2⟩; have hc3 : w2.cell? ⟨g1, 0, none⟩ = some (.float .f64 4607182418800017408) := (hb2.cell (p := ⟨g1, 0, none⟩) (by exact hl1)).trans hc1; have hb3 := hb1.trans (hb2.mono hb1.size)))
  all_goals (go_wp2_with fail; go_ret; exact ⟨rfl, ⟨hb3.os, hb3.tape, hb3.output, hb3.size, hb3.block⟩⟩)
end Go.Proofs.YthggdkpikjekmaaGreatRDoor
