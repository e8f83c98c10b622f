/- Names: validateMetric, getMetricFamily, splitMetricName, addTag. -/
import Derived.Test.YthggdkpikjekmaaGreatRDoorWr
import Derived.Laws.Concat
namespace Go.Proofs.YthggdkpikjekmaaGreatRDoor
open Go.RowKit Go.Lib
set_option maxRecDepth 100000
set_option linter.unusedVariables false

/-- Small letters. -/
def LowB (l : List UInt8) : Prop := 0 < l.length ∧ l.length ≤ 100 ∧ ∀ x ∈ l, 97 ≤ x.toNat ∧ x.toNat ≤ 122

theorem LowB.low {l : List UInt8} (h : LowB l) : Low ⟨l.toArray⟩ := by
  have hsz : (⟨l.toArray⟩ : ByteArray).size = l.length := by simp [ByteArray.size]
  have h21 := h.2.1
  refine ⟨by rw [hsz]; exact h.1, by rw [hsz]; omega, fun k hk => ?_⟩
  have hk' : k < l.length := by rw [← hsz]; exact hk
  have := h.2.2 (l[k]) (List.getElem_mem hk')
  have e : (⟨l.toArray⟩ : ByteArray)[k] = l[k] := rfl
  rw [e]
  omega

theorem idx_none {l : List UInt8} {c : UInt8} (h : ∀ x ∈ l, x ≠ c) : Lib.indexByte l c = -1 := by
  induction l with
  | nil => rfl
  | cons b l ih =>
    have hb : (b == c) = false := by simpa using h b (by simp)
    rw [Lib.indexByte, hb, ih fun x hx => h x (by simp [hx])]
    rfl

theorem idx_at {l r : List UInt8} {c : UInt8} (h : ∀ x ∈ l, x ≠ c) : Lib.indexByte (l ++ c :: r) c = (l.length : Int) := by
  induction l with
  | nil => simp [Lib.indexByte]
  | cons b l ih =>
    have hb : (b == c) = false := by simpa using h b (by simp)
    rw [List.cons_append, Lib.indexByte, hb, ih fun x hx => h x (by simp [hx])]
    have h2 : ((l.length : Int) == -1) = false := by simp
    rw [h2]
    simp

theorem LowB.no {l : List UInt8} (h : LowB l) {c : UInt8} (hc : c.toNat < 97 ∨ 122 < c.toNat) : ∀ x ∈ l, x ≠ c := fun x hx e => by
  have := h.2.2 x hx
  rw [e] at this
  omega

theorem ib_any (l : List UInt8) (c : Nat) (hc : c < 256) (r : Int) (h : Lib.indexByte l (UInt8.ofNat c) = r) (w : World) :
    Calls Tryz.prog 57 #[.string ⟨l.toArray⟩, .int .u8 (c : Int)] w fun e w' => e = .returned (.int .i64 r) ∧ w = w' := by
  refine (Tryz.strings_IndexByte ⟨l.toArray⟩ (c : Int) w).mono ?_
  rintro e w' ⟨rfl, rfl⟩
  refine ⟨?_, rfl⟩
  rw [← h]
  have : ((c : Int).toNat.toUInt8) = UInt8.ofNat c := by rw [Int.toNat_natCast]
  rw [this]

/-- A name of small letters may stand. -/
theorem validM_low (l : List UInt8) (h : LowB l) (w : World) :
    Calls Tryz.prog 37 #[.string ⟨l.toArray⟩] w fun e w' => e = .returned .nilIface ∧ w = w' := by
  have h1 := h.1
  have h2 := h.2.1
  have HI := Lib.hid (ib_any l 123 (by omega) (-1) (idx_none (h.no (by decide))))
  have HV := Lib.hid (validIdent_low _ h.low)
  go_enter Tryz.func37, Tryz.ntmps37
  go_wp2_with (first
    | (go_at_call 57; refine (HI.out _).mono ?_; rintro e w' ⟨rfl, rfl⟩)
    | (go_at_call 58; refine (HV.out _).mono ?_; rintro e w' ⟨rfl, rfl⟩))
  go_ret
  exact ⟨rfl, rfl⟩

theorem family_low (l : List UInt8) (h : LowB l) (w : World) :
    Calls Tryz.prog 43 #[.string ⟨l.toArray⟩] w fun e w' => e = .returned (.string ⟨l.toArray⟩) ∧ w = w' := by
  have HI := Lib.hid (ib_any l 123 (by omega) (-1) (idx_none (h.no (by decide))))
  go_enter Tryz.func43, Tryz.ntmps43
  go_wp2_with (go_at_call 57; refine (HI.out _).mono ?_; rintro e w' ⟨rfl, rfl⟩)
  go_ret
  exact ⟨rfl, rfl⟩

theorem split_low (l : List UInt8) (h : LowB l) (w : World) :
    Calls Tryz.prog 165 #[.string ⟨l.toArray⟩] w fun e w' => e = .returned (.tuple #[.string ⟨l.toArray⟩, .string ⟨#[]⟩]) ∧ w = w' := by
  have HI := Lib.hid (ib_any l 123 (by omega) (-1) (idx_none (h.no (by decide))))
  go_enter Tryz.func165, Tryz.ntmps165
  go_wp2_with (go_at_call 57; refine (HI.out _).mono ?_; rintro e w' ⟨rfl, rfl⟩)
  go_ret2
  exact ⟨rfl, rfl⟩

theorem ext_to (a b : List UInt8) : (⟨(a ++ b).toArray⟩ : ByteArray).extract 0 a.length = ⟨a.toArray⟩ := by
  apply ByteArray.ext
  simp [ByteArray.extract, ByteArray.copySlice]
theorem ext_from (a b : List UInt8) : (⟨(a ++ b).toArray⟩ : ByteArray).extract a.length (a ++ b).length = ⟨b.toArray⟩ := by
  apply ByteArray.ext
  simp [ByteArray.extract, ByteArray.copySlice]
end Go.Proofs.YthggdkpikjekmaaGreatRDoor
