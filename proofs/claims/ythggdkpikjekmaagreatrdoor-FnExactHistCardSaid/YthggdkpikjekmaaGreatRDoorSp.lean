/- spec.Word, spec.total. -/
import Derived.Test.YthggdkpikjekmaaGreatRDoorIh
import Derived.Test.YthggdkpikjekmaaGreatRDoorCnt
namespace Go.Proofs.YthggdkpikjekmaaGreatRDoor
open Go.RowKit Go.Lib WholeFloats
set_option maxRecDepth 100000
set_option linter.unusedVariables false

def wA (n : Nat) : UInt8 := UInt8.ofNat (97 + n % 5)
def wB (n : Nat) : UInt8 := UInt8.ofNat (97 + n / 5 % 5)
theorem wA_nat (n : Nat) : (wA n).toNat = 97 + n % 5 := by unfold wA; rw [UInt8.toNat_ofNat']; omega
theorem wB_nat (n : Nat) : (wB n).toNat = 97 + n / 5 % 5 := by unfold wB; rw [UInt8.toNat_ofNat']; omega

theorem word_any (n : Nat) (hn : n ≤ 255) (w : World) :
    Calls Tryz.prog 8 #[.int .u8 (n : Int)] w fun e w' => e = .returned (.string ⟨#[109, wA n, wB n]⟩) ∧ Below w.heap.size w w' := by
  have hcv : ∀ (x y : Int), x = ((wA n).toNat : Int) → y = ((wB n).toNat : Int) → (convert 22 9 (.slice (some ⟨w.heap.size, 0, none⟩) 3 3)).run Tryz.prog (w.alloc (.cells #[.int .u8 109, .int .u8 x, .int .u8 y] 5)) = .ok (.string ⟨#[109, wA n, wB n]⟩) (w.alloc (.cells #[.int .u8 109, .int .u8 x, .int .u8 y] 5)) := fun x y hx hy => by
    subst hx
    subst hy
    refine run_convert_whole _ _ 5 _ Tryz.underlying22 Tryz.underlying5 Tryz.underlying9 w.heap.size 0 ⟨#[109, wA n, wB n]⟩ (fun i h' => ?_) 3
    rw [Nat.zero_add, World.cell?_alloc_new]
    have hi : i < 3 := h'
    match i, hi with
    | 0, _ => rfl
    | 1, _ => rfl
    | 2, _ => rfl
  have e1 := wA_nat n
  have e2 := wB_nat n
  have HC := Lib.hid hcv
  clear hcv
  go_enter Tryz.func8, Tryz.ntmps8
  go_wp2_with fail
  rw [HC.out _ _ (by rw [e1]; omega) (by rw [e2]; omega)]
  simp only [Result.andThen_ok]
  go_wp2_with fail
  go_ret
  exact ⟨rfl, (Below.refl _ _).alloc (Nat.le_refl _) _⟩

theorem total_any (ns : List Nat) (fv : Value) (w : World) (hT : Tabs w) (hsm : ns.sum < 2 ^ 53) (hl : ns.length ≤ 30) (hfv : FsV w fv ns) :
    Calls Tryz.prog 19 #[fv] w fun e w' => e = .returned (.string ⟨(Lib.itoa (ns.sum : Int)).toArray⟩) ∧ Below w.heap.size w w' := by
  have HFI := Lib.hid (fi_any ns.sum hsm w hT)
  have hcv := fun w => run_convert_float_int (P := Tryz.prog) w 36 2 .f64 .i64 (wf ns.sum) (ns.sum : Int) (by rw [Tryz.underlying36]; rfl) Tryz.underlying2 (wf_toInt ns.sum hsm)
  have hform : ∃ A c, fv = .slice A ns.length c ∧ (0 < ns.length → ∃ g, A = some ⟨g, 0, none⟩ ∧ ∀ k, k < ns.length → w.cell? ⟨g, k, none⟩ = some (.float .f64 (wf (ns.getD k 0)))) := by
    rcases hfv with ⟨A, c, rfl, rfl⟩ | ⟨g, c, rfl, h0, hf⟩
    · exact ⟨A, c, rfl, fun h => by simp at h⟩
    · exact ⟨_, c, rfl, fun _ => ⟨g, rfl, hf.2⟩⟩
  obtain ⟨A, c, rfl, hc⟩ := hform
  have HC := Lib.hid hc
  have HS := Lib.hid hsm
  clear hc hfv hT hsm
  go_enter Tryz.func19, Tryz.ntmps19
  go_wp2_with fail
  go_loop [3, 8] (fun x y => ∃ k : Nat, k ≤ ns.length ∧ y = .int .i64 k ∧ x = .float .f64 (wf (ns.take k).sum)) (fun _ y => ns.length - (RowKit.intOf y).toNat)
  case atStart => exact ⟨0, Nat.zero_le _, rfl, rfl⟩
  case round =>
    obtain ⟨k, hk, rfl, rfl⟩ := hrel
    by_cases hlt : k < ns.length
    · obtain ⟨g, rfl, hcell⟩ := HC.out (by omega)
      have hck := hcell k hlt
      have ht : Hid ((ns.take (k + 1)).sum = (ns.take k).sum + ns.getD k 0) := Lib.hid (by
        rw [List.take_succ_eq_append_getElem hlt, List.sum_append, List.sum_singleton, List.getD_eq_getElem?_getD, List.getElem?_eq_getElem hlt]
        rfl)
      have hadd := fun w => run_float_arith (P := Tryz.prog) w _ 36 _ _ _ _ (show fAdd (wf (ns.take k).sum) (wf (ns.getD k 0)) = some (wf ((ns.take k).sum + ns.getD k 0)) from add_wf _ _ (by have := sum_take_le ns (k + 1); rw [ht.out] at this; have := HS.out; omega))
      clear hcell
      generalize ns.getD k 0 = m at hck ht hadd
      go_wp2_with fail
      go_round
      case rel => exact ⟨k + 1, by omega, by go_num, by rw [ht.out]⟩
      case measure => simp [RowKit.intOf]; omega
    · obtain rfl : k = ns.length := by omega
      rw [List.take_length]
      go_wp2_with fail
      refine HFI.out.mono ?_
      rintro e w1 ⟨rfl, hb⟩
      simp only []
      go_at_K
      go_wp2_with fail
      go_ret
      exact ⟨rfl, hb⟩
end Go.Proofs.YthggdkpikjekmaaGreatRDoor
