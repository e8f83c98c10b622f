/- getVMRange, lowerBucketRange. -/
import Derived.Test.YthggdkpikjekmaaGreatRDoorPw
namespace Go.Proofs.YthggdkpikjekmaaGreatRDoor
open Go.RowKit Go.Lib
set_option maxRecDepth 100000
set_option linter.unusedVariables false

theorem str_app (a b : List UInt8) : (⟨a.toArray⟩ : ByteArray) ++ ⟨b.toArray⟩ = ⟨(a ++ b).toArray⟩ := by
  apply ByteArray.ext
  simp

set_option maxHeartbeats 1600000 in
theorem range_any (i : Nat) (hi : i < 486) (w : World) (hT : Tabs w) :
    Calls Tryz.prog 23 #[.int .i64 (i : Int)] w fun e w' => e = .returned (.string ⟨(rngL i).toArray⟩) ∧ Below w.heap.size w w' := by
  have HT := Lib.hid hT
  have hz := hT.size
  have hi' : (i : Int) < 486 := by omega
  have HE := Lib.hid fun (x : Nat) (hok : okX x = true) (v : World) (hv : Tabs v) => expText_any x hok v hv
  have HS := Lib.hid pw_succ
  have HO := Lib.hid pw_ok
  clear hT
  go_enter Tryz.func23, Tryz.ntmps23
  go_wp2_with (first
    | (go_at_call 35; refine (pow10_neg9 _).mono ?_; rintro e w1 ⟨rfl, hb1⟩)
    | (go_at_call 36; refine (bucketMultiplier_any _).mono ?_; rintro e w' ⟨rfl, rfl⟩))
  have HB1 := Lib.hid hb1
  clear hb1
  go_loop [3, 5] (fun v x => ∃ k : Nat, k ≤ i ∧ x = .int .i64 k ∧ v = .float .f64 (pw k)) (fun _ x => i - (RowKit.intOf x).toNat)
  case atStart => exact ⟨0, Nat.zero_le _, rfl, by rw [pw_zero]⟩
  case round =>
    obtain ⟨k, hk, rfl, rfl⟩ := hrel
    by_cases hlt : k < i
    · have hm := fun w => run_float_arith (P := Tryz.prog) w _ 36 _ _ _ _ (HS.out k (by omega))
      go_wp2_with fail
      go_round
      case rel => exact ⟨k + 1, by omega, by simp, rfl⟩
      case measure => show i - ((k : Int) + 1).toNat < i - (k : Int).toNat; omega
    · obtain rfl : k = i := by omega
      have hm := fun w => run_float_arith (P := Tryz.prog) w _ 36 _ _ _ _ (HS.out k (by omega))
      have hT1 : Tabs w1 := HT.out.below HB1.out hz
      have hT1 : Tabs w1 := HT.out.below HB1.out hz
      obtain ⟨L1, hL1⟩ : ∃ L, L = expT (pw k) := ⟨_, rfl⟩
      obtain ⟨L2, hL2⟩ : ∃ L, L = expT (pw (k + 1)) := ⟨_, rfl⟩
      have e1 := expT_len (pw k)
      have e2 := expT_len (pw (k + 1))
      rw [← hL1] at e1
      rw [← hL2] at e2
      have hA1 := fun w => run_str_add L1 [46, 46, 46] (by simp; omega) w
      have hA2 := fun w => run_str_add (L1 ++ [46, 46, 46]) L2 (by simp; omega) w
      have hR : Hid (rngL k = L1 ++ [46, 46, 46] ++ L2) := Lib.hid (by rw [rngL, hL1, hL2])
      have HE1 : Hid (∀ v : World, Tabs v → Calls Tryz.prog 34 #[.float .f64 (pw k)] v fun e w' => e = .returned (.string ⟨L1.toArray⟩) ∧ Below v.heap.size v w') := Lib.hid (by rw [hL1]; exact HE.out _ (HO.out k (by omega)))
      have HE2 : Hid (∀ v : World, Tabs v → Calls Tryz.prog 34 #[.float .f64 (pw (k + 1))] v fun e w' => e = .returned (.string ⟨L2.toArray⟩) ∧ Below v.heap.size v w') := Lib.hid (by rw [hL2]; exact HE.out _ (HO.out (k + 1) (by omega)))
      have HT1 := Lib.hid hT1
      clear hL1 hL2 hT1
      go_wp2_with fail
      refine (HE1.out w1 HT1.out).mono ?_
      rintro e w2 ⟨rfl, hb2⟩
      have hT2 : Tabs w2 := HT1.out.below hb2 (Nat.le_trans hz HB1.out.size)
      have HB2 := Lib.hid (HB1.out.trans (hb2.mono HB1.out.size))
      have HT2 := Lib.hid hT2
      clear hb2 hT2
      go_wp2_with fail
      refine (HE2.out w2 HT2.out).mono ?_
      rintro e w3 ⟨rfl, hb3⟩
      have HB3 := Lib.hid (HB2.out.trans (hb3.mono HB2.out.size))
      clear hb3
      go_wp2_with fail
      go_ret
      exact ⟨by rw [hR.out, ← ByteArray.mk_append_mk, ← ByteArray.mk_append_mk]; rfl, HB3.out⟩


theorem lowT : okX 4472406533629990549 = true := by rw [← pw_zero]; exact pw_ok 0 (by omega)
def lowL : List UInt8 := [48, 46, 46, 46] ++ expT (pw 0)
theorem lowL_len : lowL.length ≤ 50 := by have := expT_len (pw 0); unfold lowL; simp only [List.length_append, List.length_cons, List.length_nil]; omega

theorem lower_any (w : World) (hT : Tabs w) :
    Calls Tryz.prog 22 #[] w fun e w' => e = .returned (.string ⟨lowL.toArray⟩) ∧ Below w.heap.size w w' := by
  have HT := Lib.hid hT
  have hz := hT.size
  obtain ⟨L1, hL1⟩ : ∃ L, L = expT (pw 0) := ⟨_, rfl⟩
  have e1 := expT_len (pw 0)
  rw [← hL1] at e1
  have hA1 := fun w => run_str_add [48, 46, 46, 46] L1 (by simp; omega) w
  have hR : Hid (lowL = [48, 46, 46, 46] ++ L1) := Lib.hid (by rw [lowL, hL1])
  have HE1 : Hid (∀ v : World, Tabs v → Calls Tryz.prog 34 #[.float .f64 4472406533629990549] v fun e w' => e = .returned (.string ⟨L1.toArray⟩) ∧ Below v.heap.size v w') := Lib.hid (by rw [hL1, pw_zero]; exact fun v hv => expText_any _ lowT v hv)
  clear hL1 hT
  go_enter Tryz.func22, Tryz.ntmps22
  go_wp2_with (go_at_call 35; refine (pow10_neg9 _).mono ?_; rintro e w1 ⟨rfl, hb1⟩)
  refine (HE1.out w1 (HT.out.below hb1 hz)).mono ?_
  rintro e w2 ⟨rfl, hb2⟩
  have HB2 := Lib.hid (hb1.trans (hb2.mono hb1.size))
  clear hb2 hb1
  go_wp2_with fail
  go_ret
  exact ⟨by rw [hR.out, ← ByteArray.mk_append_mk]; rfl, HB2.out⟩
attribute [irreducible] lowL
end Go.Proofs.YthggdkpikjekmaaGreatRDoor
