/- Contracts of the small functions on floats. -/
import Derived.Test.YthggdkpikjekmaaGreatRDoorChecked
import Derived.WalkKit
import Derived.WalkLawsBesides
import Derived.KernelRfl
namespace Go.Proofs.YthggdkpikjekmaaGreatRDoor
open Go.RowKit
set_option maxRecDepth 100000

@[go_sem] theorem run_f64bits (x : Nat) (w : World) : (callFunc 137 #[.float .f64 x]).run Tryz.prog w = .ok (.value (.int .u64 x)) w :=
  (run_callFunc_extern Tryz.func137 (by kernel_rfl) (by kernel_rfl) (by kernel_rfl) (e := Extern.MathFloatBits.float64bits) (by kernel_rfl) _ w).trans rfl
@[go_sem] theorem run_f64from (x : Int) (w : World) : (callFunc 84 #[.int .u64 x]).run Tryz.prog w = .ok (.value (.float .f64 x.toNat)) w :=
  (run_callFunc_extern Tryz.func84 (by kernel_rfl) (by kernel_rfl) (by kernel_rfl) (e := Extern.MathFloatBits.float64frombits) (by kernel_rfl) _ w).trans rfl

theorem isNaN_any (x : Nat) (w : World) :
    Calls Tryz.prog 32 #[.float .f64 x] w fun e w' => e = .returned (.bool (FloatKind.f64.format.order x x != some .eq)) ∧ w = w' := by
  go_enter Tryz.func32, Tryz.ntmps32
  go_wp2
  all_goals go_ret
  all_goals exact ⟨rfl, rfl⟩

theorem f64bits_any (x : Nat) (w : World) :
    Calls Tryz.prog 110 #[.float .f64 x] w fun e w' => e = .returned (.int .u64 x) ∧ w = w' := by
  go_enter Tryz.func110, Tryz.ntmps110
  go_wp2
  go_ret
  exact ⟨rfl, rfl⟩

def absB (x : Nat) : Nat := (bits BinOp.andNot IntKind.u64 (x : Int) 9223372036854775808).toNat
theorem abs_any (x : Nat) (w : World) :
    Calls Tryz.prog 89 #[.float .f64 x] w fun e w' => e = .returned (.float .f64 (absB x)) ∧ w = w' := by
  go_enter Tryz.func89, Tryz.ntmps89
  go_wp2
  go_ret
  exact ⟨rfl, rfl⟩

theorem isInf0_any (x : Nat) (w : World) :
    Calls Tryz.prog 88 #[.float .f64 x, .int .i64 0] w fun e w' => e = .returned (.bool (FloatKind.f64.format.order (absB x) 9218868437227405311 == some .gt)) ∧ w = w' := by
  go_enter Tryz.func88, Tryz.ntmps88
  go_wp2_with (go_at_call 89; refine (abs_any _ _).mono ?_; rintro e w' ⟨rfl, rfl⟩)
  go_ret
  exact ⟨rfl, rfl⟩
theorem isInf1_any (x : Nat) (w : World) :
    Calls Tryz.prog 88 #[.float .f64 x, .int .i64 1] w fun e w' => e = .returned (.bool (FloatKind.f64.format.order x 9218868437227405311 == some .gt)) ∧ w = w' := by
  go_enter Tryz.func88, Tryz.ntmps88
  go_wp2
  go_ret
  exact ⟨rfl, rfl⟩

/-- A number that is neither zero nor small nor infinite. -/
def plainB (x : Nat) : Bool := !(FloatKind.f64.format.order x 0 == some .eq) && !(FloatKind.f64.format.order (absB x) 9218868437227405311 == some .gt) && !(FloatKind.f64.format.order x x != some .eq) && !(FloatKind.f64.format.order (absB x) 4503599627370496 == some .lt)
theorem plainB_parts {x : Nat} (h : plainB x = true) : (FloatKind.f64.format.order x 0 == some .eq) = false ∧ (FloatKind.f64.format.order (absB x) 9218868437227405311 == some .gt) = false ∧ (FloatKind.f64.format.order x x != some .eq) = false ∧ (FloatKind.f64.format.order (absB x) 4503599627370496 == some .lt) = false := by
  simp only [plainB, Bool.and_eq_true, Bool.not_eq_true'] at h
  exact ⟨h.1.1.1, h.1.1.2, h.1.2, h.2⟩

theorem normalize_any (x : Nat) (hx : plainB x = true) (w : World) :
    Calls Tryz.prog 140 #[.float .f64 x] w fun e w' => e = .returned (.tuple #[.float .f64 x, .int .i64 0]) ∧ w = w' := by
  obtain ⟨_, _, _, h4⟩ := plainB_parts hx
  clear hx
  go_enter Tryz.func140, Tryz.ntmps140
  go_wp2_with (go_at_call 89; refine (abs_any _ _).mono ?_; rintro e w' ⟨rfl, rfl⟩)
  go_ret2
  exact ⟨rfl, rfl⟩

theorem f64from_any (x : Int) (w : World) :
    Calls Tryz.prog 70 #[.int .u64 x] w fun e w' => e = .returned (.float .f64 x.toNat) ∧ w = w' := by
  go_enter Tryz.func70, Tryz.ntmps70
  go_wp2
  go_ret
  exact ⟨rfl, rfl⟩

theorem inf_neg (w : World) :
    Calls Tryz.prog 55 #[.int .i64 (-1)] w fun e w' => e = .returned (.float .f64 18442240474082181120) ∧ w = w' := by
  go_enter Tryz.func55, Tryz.ntmps55
  go_wp2_with (go_at_call 70; refine (f64from_any _ _).mono ?_; rintro e w' ⟨rfl, rfl⟩)
  go_ret
  exact ⟨rfl, rfl⟩

def fracB (x : Nat) : Nat := (bits BinOp.or IntKind.u64 (bits BinOp.andNot IntKind.u64 (x : Int) 9218868437227405312) 4602678819172646912).toNat
def expB (x : Nat) : Int := wrap64 (wrap64 (wrap64 (wrap64 (bits BinOp.and IntKind.u64 ((x : Int) / 4503599627370496) 2047) - 1023) + 1))

theorem frexp_any (x : Nat) (hx : plainB x = true) (w : World) :
    Calls Tryz.prog 115 #[.float .f64 x] w fun e w' => e = .returned (.tuple #[.float .f64 (fracB x), .int .i64 (expB x)]) ∧ w = w' := by
  obtain ⟨h1, h2, h3, h4⟩ := plainB_parts hx
  clear h4
  go_enter Tryz.func115, Tryz.ntmps115
  go_wp2_with (first
    | (go_at_call 88; refine (isInf0_any _ _).mono ?_; rintro e w' ⟨rfl, rfl⟩)
    | (go_at_call 32; refine (isNaN_any _ _).mono ?_; rintro e w' ⟨rfl, rfl⟩)
    | (go_at_call 140; refine (normalize_any _ hx _).mono ?_; rintro e w' ⟨rfl, rfl⟩)
    | (go_at_call 110; refine (f64bits_any _ _).mono ?_; rintro e w' ⟨rfl, rfl⟩)
    | (go_at_call 70; refine (f64from_any _ _).mono ?_; rintro e w' ⟨rfl, rfl⟩))
  go_ret2
  exact ⟨rfl, rfl⟩
theorem Frexp_any (x : Nat) (hx : plainB x = true) (w : World) :
    Calls Tryz.prog 93 #[.float .f64 x] w fun e w' => e = .returned (.tuple #[.float .f64 (fracB x), .int .i64 (expB x)]) ∧ w = w' := by
  go_enter Tryz.func93, Tryz.ntmps93
  go_wp2_with (go_at_call 115; refine (frexp_any _ hx _).mono ?_; rintro e w' ⟨rfl, rfl⟩)
  go_ret2
  exact ⟨rfl, rfl⟩
end Go.Proofs.YthggdkpikjekmaaGreatRDoor
