/- laws.FnExactHist. -/
import Derived.Test.YthggdkpikjekmaaGreatRDoorSh
import Derived.Test.YthggdkpikjekmaaGreatRDoorSan2
namespace Go.Proofs.YthggdkpikjekmaaGreatRDoor
open Go.RowKit Go.Lib WholeFloats
set_option maxRecDepth 100000
set_option linter.unusedVariables false

set_option maxHeartbeats 1600000 in
theorem exact_any (n : Nat) (hn : n ≤ 255) (tagged : Bool) (v : Value) (ds : List Nat) (w : World) (hT : Tabs w) (h : DataV w v ds) :
    Calls Tryz.prog 4 #[.int .u8 (n : Int), .bool tagged, v] w fun e w' => e = .returned (.bool true) ∧ Below w.heap.size w w' := by
  have hb := h.1
  obtain ⟨A, c, hv, -⟩ := h.2
  by_cases hl : 2147483647 < ds.length
  · subst hv
    have hl' : (2147483647 : Int) < (ds.length : Int) := by omega
    clear h
    go_enter Tryz.func4, Tryz.ntmps4
    go_wp2_with fail
    go_ret
    exact ⟨rfl, Below.refl _ _⟩
  · have HV := Lib.hid (values_all v ds w h (by omega))
    subst hv
    have hl' : ¬ (2147483647 : Int) < (ds.length : Int) := by omega
    have HT := Lib.hid hT
    have hT8 := Lib.hid hT.size
    have H1 := Lib.hid (vals_good hb)
    have H2 := Lib.hid (valsOf_sum hb)
    have hn30 := valsN_le ds
    rw [← valsOf_length] at hn30
    have HSan := Lib.hid sane_any
    have HW := Lib.hid (word_any n hn)
    have e1 := wA_nat n
    have e2 := wB_nat n
    have ha : 97 ≤ (wA n).toNat ∧ (wA n).toNat ≤ 122 := by omega
    have hbb : 97 ≤ (wB n).toNat ∧ (wB n).toNat ≤ 122 := by omega
    clear h hT hb e1 e2
    generalize hns : valsOf ds = ns at *
    generalize wA n = a at *
    generalize wB n = b at *
    have hn' : (n : Int) ≤ 255 := by omega
    have HH := Lib.hid fun (t : Bool) (fv : Value) (w : World) (hT : Tabs w) (hf : FsV w fv ns) => hist_any t a b ha hbb ns fv w hT hn30 H1.out H2.out hf
    have HQ := Lib.hid fun (t : Bool) (fv rv cv : Value) (w : World) (hT : Tabs w) (hf : FsV w fv ns) (hfl : ∃ A c, fv = .slice A ns.length c) (hr : RowV w rv (nameV (visN ns))) (hc : RowV w cv (numV (visN ns))) => shist_any t a b ns fv rv cv w hT hn30 H2.out hf hfl hr hc
    cases tagged
    all_goals
      go_enter Tryz.func4, Tryz.ntmps4
      go_wp2_with fail
      refine HV.out.mono ?_
      rintro e w1 ⟨fv, A1, c1, rfl, rfl, hfs, hb1⟩
      simp only []
      go_at_K
      go_wp2_with fail
      refine (HW.out w1).mono ?_
      rintro e w2 ⟨rfl, hb2⟩
      have HB2 := Lib.hid (hb1.trans (hb2.mono hb1.size))
      have hf2 := hfs.below hb2
      clear hfs hb1 hb2
      simp only []
      go_at_K
      go_wp2_with fail
      refine (buckets_any ns _ w2 (HT.out.below HB2.out hT8.out) (by omega) H2.out H1.out hf2).mono ?_
      rintro e w3 ⟨rv, cv, rfl, hr, hc, hb3⟩
      have HB3 := Lib.hid (HB2.out.trans (hb3.mono HB2.out.size))
      have hf3 := hf2.below hb3
      have hr3 := rowV_of hr (by simp [nameV])
      have hc3 := rowV_of hc (by simp [numV])
      clear hf2 hb3 hr hc
      simp only []
      go_at_K
      go_wp2_with fail
    · skip
      refine (HH.out false _ w3 (HT.out.below HB3.out hT8.out) hf3).mono ?_
      rintro e w4 ⟨rfl, hb4⟩
      have HB4 := Lib.hid (HB3.out.trans (hb4.mono HB3.out.size))
      have hf4 := hf3.below hb4
      have hr4 := hr3.below hb4
      have hc4 := hc3.below hb4
      clear hf3 hr3 hc3 hb4
      simp only []
      go_at_K
      go_wp2_with fail
      refine (HQ.out false _ _ _ w4 (HT.out.below HB4.out hT8.out) hf4 ⟨_, _, rfl⟩ hr4 hc4).mono ?_
      rintro e w5 ⟨rfl, hb5⟩
      have HB5 := Lib.hid (HB4.out.trans (hb5.mono HB4.out.size))
      clear hf4 hr4 hc4 hb5
      simp only []
      go_at_K
      generalize (⟨(outL false a b ns).toArray⟩ : ByteArray) = O
      go_wp2_with fail
      refine (HSan.out w5).mono ?_
      rintro e w6 ⟨rfl, hb6⟩
      have HB6 := Lib.hid (HB5.out.trans (hb6.mono HB5.out.size))
      clear hb6
      simp only []
      go_at_K
      go_wp2_with fail
      go_ret
      exact ⟨rfl, HB6.out⟩
    · skip
      have ef : (⟨#[109, a, b]⟩ ++ ⟨#[123]⟩ ++ ⟨#[116, 61, 34, 120, 34]⟩ ++ ⟨#[125]⟩ : ByteArray) = ⟨(fullL true a b).toArray⟩ := by
        apply ByteArray.ext
        simp [fullL]
      rw [ef]
      refine (HH.out true _ w3 (HT.out.below HB3.out hT8.out) hf3).mono ?_
      rintro e w4 ⟨rfl, hb4⟩
      have HB4 := Lib.hid (HB3.out.trans (hb4.mono HB3.out.size))
      have hf4 := hf3.below hb4
      have hr4 := hr3.below hb4
      have hc4 := hc3.below hb4
      clear hf3 hr3 hc3 hb4
      simp only []
      go_at_K
      go_wp2_with fail
      refine (HQ.out true _ _ _ w4 (HT.out.below HB4.out hT8.out) hf4 ⟨_, _, rfl⟩ hr4 hc4).mono ?_
      rintro e w5 ⟨rfl, hb5⟩
      have HB5 := Lib.hid (HB4.out.trans (hb5.mono HB4.out.size))
      clear hf4 hr4 hc4 hb5
      simp only []
      go_at_K
      generalize (⟨(outL true a b ns).toArray⟩ : ByteArray) = O
      go_wp2_with fail
      refine (HSan.out w5).mono ?_
      rintro e w6 ⟨rfl, hb6⟩
      have HB6 := Lib.hid (HB5.out.trans (hb6.mono HB5.out.size))
      clear hb6
      simp only []
      go_at_K
      go_wp2_with fail
      go_ret
      exact ⟨rfl, HB6.out⟩
end Go.Proofs.YthggdkpikjekmaaGreatRDoor
