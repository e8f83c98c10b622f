/- Names: isIdent, validateIdent, validateTags, validateMetric, getMetricFamily, splitMetricName, addTag. -/
import Derived.Test.YthggdkpikjekmaaGreatRDoorHist
import Derived.Test.YthggdkpikjekmaaGreatRDoorShelf
namespace Go.Proofs.YthggdkpikjekmaaGreatRDoor
open Go.RowKit Go.Lib
set_option maxRecDepth 100000
set_option linter.unusedVariables false

/-- All bytes are small letters. -/
def Low (s : ByteArray) : Prop := 0 < s.size ∧ s.size ≤ 1000 ∧ ∀ k (h : k < s.size), 97 ≤ (s[k].toNat : Int) ∧ (s[k].toNat : Int) ≤ 122

theorem isIdent_low (s : ByteArray) (hs : Low s) (w : World) :
    Calls Tryz.prog 73 #[.string s] w fun e w' => e = .returned (.bool true) ∧ w = w' := by
  obtain ⟨h0, h1, h2⟩ := hs
  go_enter Tryz.func73, Tryz.ntmps73
  go_wp2_with fail
  go_loop [3] (fun i => ∃ k : Nat, k ≤ s.size ∧ i = .int .i64 k) (fun i => s.size - (RowKit.intOf i).toNat)
  case atStart => exact ⟨0, Nat.zero_le _, rfl⟩
  case round =>
    obtain ⟨k, hk, rfl⟩ := hrel
    by_cases hlt : k < s.size
    · obtain ⟨h3, h4⟩ := h2 k hlt
      go_wp2_with fail
      go_round
      case rel => exact ⟨k + 1, by omega, by go_num⟩
      case measure => simp [RowKit.intOf]; omega
    · have hne : s.toList.isEmpty = false := by
        rw [Lib.toList_data]
        cases h : s.data.toList with
        | nil =>
          have : s.size = 0 := by show s.data.size = 0; rw [← Array.length_toList, h]; rfl
          omega
        | cons a b => rfl
      go_wp2_with fail
      go_ret
      exact ⟨rfl, rfl⟩

theorem validIdent_low (s : ByteArray) (hs : Low s) (w : World) :
    Calls Tryz.prog 58 #[.string s] w fun e w' => e = .returned .nilIface ∧ w = w' := by
  go_enter Tryz.func58, Tryz.ntmps58
  go_wp2_with (go_at_call 73; refine (isIdent_low s hs _).mono ?_; rintro e w' ⟨rfl, rfl⟩)
  go_ret
  exact ⟨rfl, rfl⟩
end Go.Proofs.YthggdkpikjekmaaGreatRDoor
