/- Names of three letters with a tag. -/
import Derived.Test.YthggdkpikjekmaaGreatRDoorNm
import Derived.WalkMore
import Derived.Scope
namespace Go.Proofs.YthggdkpikjekmaaGreatRDoor
open Go.RowKit Go.Lib
set_option maxRecDepth 100000
set_option linter.unusedVariables false

theorem low_t : LowB [116] := ⟨by decide, by decide, by decide⟩

theorem validT (w : World) :
    Calls Tryz.prog 59 #[.string ⟨#[116, 61, 34, 120, 34]⟩] w fun e w' => e = .returned .nilIface ∧ w = w' := by
  have H1 := Lib.hid (ib_any [116, 61, 34, 120, 34] 61 (by omega) 1 (by decide))
  have H2 := Lib.hid (ib_any [120, 34] 34 (by omega) 1 (by decide))
  have HV := Lib.hid (validIdent_low _ low_t.low)
  have x1 : (⟨#[116, 61, 34, 120, 34]⟩ : ByteArray).extract 0 1 = ⟨#[116]⟩ := by decide
  have x2 : (⟨#[116, 61, 34, 120, 34]⟩ : ByteArray).extract 2 5 = ⟨#[34, 120, 34]⟩ := by decide
  have x3 : (⟨#[34, 120, 34]⟩ : ByteArray).extract 1 3 = ⟨#[120, 34]⟩ := by decide
  have x4 : (⟨#[120, 34]⟩ : ByteArray).extract 2 2 = ⟨#[]⟩ := by decide
  go_enter Tryz.func59, Tryz.ntmps59
  go_wp2_with fail
  refine wp_loop_rounds 1 ?_
  rw [rounds_succ]
  go_wp2_with fail
  refine wp_scope_straight ?_
  go_wp2_with (first
    | (go_at_call 57; refine (H1.out _).mono ?_; rintro e w' ⟨rfl, rfl⟩)
    | (go_at_call 57; refine (H2.out _).mono ?_; rintro e w' ⟨rfl, rfl⟩)
    | (go_at_call 58; refine (HV.out _).mono ?_; rintro e w' ⟨rfl, rfl⟩))
  go_step3
  go_wp2_with (first
    | (go_at_call 57; refine (H1.out _).mono ?_; rintro e w' ⟨rfl, rfl⟩)
    | (go_at_call 57; refine (H2.out _).mono ?_; rintro e w' ⟨rfl, rfl⟩)
    | (go_at_call 58; refine (HV.out _).mono ?_; rintro e w' ⟨rfl, rfl⟩))
  refine wp_loop_rounds 1 ?_
  rw [rounds_succ]
  go_wp2_with fail
  rw [Exit.noGoto_ret]
  go_ret
  exact ⟨rfl, rfl⟩

/-- The signs of the tag, braces and all. -/
abbrev tagL : List UInt8 := [123, 116, 61, 34, 120, 34, 125]

theorem low3 {a b : UInt8} (ha : 97 ≤ a.toNat ∧ a.toNat ≤ 122) (hb : 97 ≤ b.toNat ∧ b.toNat ≤ 122) : LowB [109, a, b] := by
  refine ⟨by simp, by simp, fun x hx => ?_⟩
  simp only [List.mem_cons, List.not_mem_nil, or_false] at hx
  rcases hx with rfl | rfl | rfl
  · decide
  · exact ha
  · exact hb

section
variable {a b : UInt8} (ha : 97 ≤ a.toNat ∧ a.toNat ≤ 122) (hb : 97 ≤ b.toNat ∧ b.toNat ≤ 122)
include ha hb

theorem idx3 (r : List UInt8) : Lib.indexByte ([109, a, b] ++ 123 :: r) (UInt8.ofNat 123) = 3 := idx_at ((low3 ha hb).no (by decide))

theorem validM_tag (w : World) :
    Calls Tryz.prog 37 #[.string ⟨#[109, a, b, 123, 116, 61, 34, 120, 34, 125]⟩] w fun e w' => e = .returned .nilIface ∧ w = w' := by
  have HI := Lib.hid (ib_any [109, a, b, 123, 116, 61, 34, 120, 34, 125] 123 (by omega) 3 (idx3 ha hb _))
  have HV := Lib.hid (validIdent_low _ (low3 ha hb).low)
  have x1 : (⟨#[109, a, b, 123, 116, 61, 34, 120, 34, 125]⟩ : ByteArray).extract 0 3 = ⟨#[109, a, b]⟩ := rfl
  have x2 : (⟨#[109, a, b, 123, 116, 61, 34, 120, 34, 125]⟩ : ByteArray).extract 4 10 = ⟨#[116, 61, 34, 120, 34, 125]⟩ := rfl
  have x3 : (⟨#[116, 61, 34, 120, 34, 125]⟩ : ByteArray).extract 0 5 = ⟨#[116, 61, 34, 120, 34]⟩ := rfl
  clear ha hb
  go_enter Tryz.func37, Tryz.ntmps37
  go_wp2_with (first
    | (go_at_call 57; refine (HI.out _).mono ?_; rintro e w' ⟨rfl, rfl⟩)
    | (go_at_call 59; refine (validT _).mono ?_; rintro e w' ⟨rfl, rfl⟩)
    | (go_at_call 58; refine (HV.out _).mono ?_; rintro e w' ⟨rfl, rfl⟩))
  go_ret
  exact ⟨rfl, rfl⟩

theorem family_tag (w : World) :
    Calls Tryz.prog 43 #[.string ⟨#[109, a, b, 123, 116, 61, 34, 120, 34, 125]⟩] w fun e w' => e = .returned (.string ⟨#[109, a, b]⟩) ∧ w = w' := by
  have HI := Lib.hid (ib_any [109, a, b, 123, 116, 61, 34, 120, 34, 125] 123 (by omega) 3 (idx3 ha hb _))
  have x1 : (⟨#[109, a, b, 123, 116, 61, 34, 120, 34, 125]⟩ : ByteArray).extract 0 3 = ⟨#[109, a, b]⟩ := rfl
  clear ha hb
  go_enter Tryz.func43, Tryz.ntmps43
  go_wp2_with (go_at_call 57; refine (HI.out _).mono ?_; rintro e w' ⟨rfl, rfl⟩)
  go_ret
  exact ⟨rfl, rfl⟩

/-- A name of three letters, then a brace and whatever: split before the brace. -/
theorem split_any (r : List UInt8) (hr : r.length ≤ 100000) (w : World) :
    Calls Tryz.prog 165 #[.string ⟨([109, a, b] ++ 123 :: r).toArray⟩] w fun e w' => e = .returned (.tuple #[.string ⟨#[109, a, b]⟩, .string ⟨(123 :: r).toArray⟩]) ∧ ∃ n, w' = w.drewN n := by
  have HI := Lib.hid (ib_any ([109, a, b] ++ 123 :: r) 123 (by omega) 3 (idx3 ha hb _))
  have x1 : (⟨([109, a, b] ++ 123 :: r).toArray⟩ : ByteArray).extract 0 3 = ⟨#[109, a, b]⟩ := ext_to [109, a, b] (123 :: r)
  have hsz : (⟨([109, a, b] ++ 123 :: r).toArray⟩ : ByteArray).size = r.length + 4 := by simp [ByteArray.size]
  have x2 : (⟨([109, a, b] ++ 123 :: r).toArray⟩ : ByteArray).extract 3 (r.length + 4) = ⟨(123 :: r).toArray⟩ := by
    have h := ext_from [109, a, b] (123 :: r)
    have e : ([109, a, b] ++ 123 :: r).length = r.length + 4 := by simp
    rw [e] at h
    exact h
  clear ha hb
  generalize (⟨([109, a, b] ++ 123 :: r).toArray⟩ : ByteArray) = s at HI x1 x2 hsz
  go_enter Tryz.func165, Tryz.ntmps165
  go_wp2_with (go_at_call 57; refine (HI.out _).mono ?_; rintro e w' ⟨rfl, rfl⟩)
  go_quiet (fail)
  go_wp2_with fail
  go_ret2
  exact ⟨rfl, _, rfl⟩
end
end Go.Proofs.YthggdkpikjekmaaGreatRDoor
