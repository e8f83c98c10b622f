/- In which bucket a value goes: for the values that the statements speak of, by the kernel. -/
import Derived.Test.YthggdkpikjekmaaGreatRDoorUpd
import Derived.Test.YthggdkpikjekmaaGreatRDoorWhole
namespace Go.Proofs.YthggdkpikjekmaaGreatRDoor
open Go.RowKit WholeFloats
set_option maxRecDepth 100000

/-- The bucket that the code's arithmetic gives for a positive number. -/
def bucketO (v : Nat) : Option Nat :=
  if !(FloatKind.f64.format.order v v != some .eq) && !(FloatKind.f64.format.order v 0 == some .lt) then do
    let lg ← log10O v
    let d ← fSub lg 13844628204490326016
    let bi ← fMul d 4625759767262920704
    if !(FloatKind.f64.format.order bi 0 == some .lt) && !(FloatKind.f64.format.order bi 4647257418609197056 == some .gt || FloatKind.f64.format.order bi 4647257418609197056 == some .eq) then do
      let n ← floatToIntVal .f64 bi .u64
      if FloatKind.f64.format.order bi (floatOfInt .f64 n) == some .eq then
        if 1 ≤ n ∧ n ≤ 486 then some (n.toNat - 1) else none
      else if 0 ≤ n ∧ n < 486 then some n.toNat else none
    else none
  else none

theorem bucketO_parts {v N : Nat} (h : bucketO v = some N) :
    N < 486 ∧ (FloatKind.f64.format.order v v != some .eq) = false ∧ (FloatKind.f64.format.order v 0 == some .lt) = false ∧ ∃ lg d bi n : Nat, log10O v = some lg ∧ fSub lg 13844628204490326016 = some d ∧ fMul d 4625759767262920704 = some bi ∧
      (FloatKind.f64.format.order bi 0 == some .lt) = false ∧ (FloatKind.f64.format.order bi 4647257418609197056 == some .gt || FloatKind.f64.format.order bi 4647257418609197056 == some .eq) = false ∧
      floatToIntVal .f64 bi .u64 = some (n : Int) ∧
      (((FloatKind.f64.format.order bi (floatOfInt .f64 ((N : Int) + 1)) == some .eq) = true ∧ n = N + 1) ∨ ((FloatKind.f64.format.order bi (floatOfInt .f64 (N : Int)) == some .eq) = false ∧ n = N)) := by
  unfold bucketO at h
  split at h
  · rename_i hc
    simp only [Bool.and_eq_true, Bool.not_eq_true'] at hc
    simp only [Option.bind_eq_bind, Option.bind_eq_some_iff] at h
    obtain ⟨lg, hlg, d, hd, bi, hbi, h⟩ := h
    split at h
    · rename_i hc2
      simp only [Bool.and_eq_true, Bool.not_eq_true'] at hc2
      simp only [Option.bind_eq_some_iff] at h
      obtain ⟨n, hn, h⟩ := h
      split at h
      · rename_i he
        split at h
        · rename_i hr
          obtain ⟨m, rfl⟩ := Int.eq_ofNat_of_zero_le (show 0 ≤ n by omega)
          injection h with h
          obtain rfl : m = N + 1 := by omega
          exact ⟨by omega, hc.1, hc.2, lg, d, bi, N + 1, hlg, hd, hbi, hc2.1, hc2.2, hn, .inl ⟨by simpa using he, rfl⟩⟩
        · cases h
      · rename_i he
        split at h
        · rename_i hr
          obtain ⟨m, rfl⟩ := Int.eq_ofNat_of_zero_le hr.1
          injection h with h
          obtain rfl : m = N := by omega
          exact ⟨by omega, hc.1, hc.2, lg, d, bi, m, hlg, hd, hbi, hc2.1, hc2.2, hn, .inr ⟨by simpa using he, rfl⟩⟩
        · cases h
    · cases h
  · cases h

/-- All digits 1 to 255 at the k-th power of ten. -/
def allAt (k : Nat) : Bool := (List.range 255).all fun d => (bucketO (wf ((d + 1) * 10 ^ k))).isSome
end Go.Proofs.YthggdkpikjekmaaGreatRDoor
