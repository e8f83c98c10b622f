/- The logarithm: what the code computes, as a plain function on bits; the walks. -/
import Derived.Test.YthggdkpikjekmaaGreatRDoorFl
namespace Go.Proofs.YthggdkpikjekmaaGreatRDoor
open Go.RowKit
set_option maxRecDepth 100000

abbrev fAdd (x y : Nat) : Option Nat := floatBits .add .f64 x y
abbrev fSub (x y : Nat) : Option Nat := floatBits .sub .f64 x y
abbrev fMul (x y : Nat) : Option Nat := floatBits .mul .f64 x y
abbrev fQuo (x y : Nat) : Option Nat := floatBits .quo .f64 x y
def ltB (x y : Nat) : Bool := FloatKind.f64.format.order x y == some .lt

/-- The polynomial part of the logarithm: 1 + f is the fraction, k the power of two. -/
def logTail (f1 : Nat) (ki : Int) : Option Nat := do
  let f ← fSub f1 4607182418800017408
  let d ← fAdd 4611686018427387904 f
  let s ← fQuo f d
  let s2 ← fMul s s
  let s4 ← fMul s2 s2
  let a7 ← fMul s4 4594499633228436036
  let a5 ← fAdd 4595719342595441630 a7
  let b5 ← fMul s4 a5
  let a3 ← fAdd 4598818590951641945 b5
  let b3 ← fMul s4 a3
  let a1 ← fAdd 4604180019048437139 b3
  let t1 ← fMul s2 a1
  let c6 ← fMul s4 4594685411790997151
  let c4 ← fAdd 4597174411056806063 c6
  let d4 ← fMul s4 c4
  let c2 ← fAdd 4600877379321592324 d4
  let t2 ← fMul s4 c2
  let R ← fAdd t1 t2
  let h1 ← fMul 4602678819172646912 f
  let hf ← fMul h1 f
  let kh ← fMul (floatOfInt .f64 ki) 4604418534311723008
  let p ← fAdd hf R
  let q ← fMul s p
  let kl ← fMul (floatOfInt .f64 ki) 4461442080421002358
  let r ← fAdd q kl
  let u ← fSub hf r
  let v ← fSub u f
  fSub kh v

theorem logTail_parts {f1 r0 : Nat} {ki : Int} (h : logTail f1 ki = some r0) :
    ∃ f d s s2 s4 a7 a5 b5 a3 b3 a1 t1 c6 c4 d4 c2 t2 R h1 hf kh p q kl r u v : Nat,
      fSub f1 4607182418800017408 = some f ∧ fAdd 4611686018427387904 f = some d ∧ fQuo f d = some s ∧ fMul s s = some s2 ∧ fMul s2 s2 = some s4 ∧
      fMul s4 4594499633228436036 = some a7 ∧ fAdd 4595719342595441630 a7 = some a5 ∧ fMul s4 a5 = some b5 ∧ fAdd 4598818590951641945 b5 = some a3 ∧
      fMul s4 a3 = some b3 ∧ fAdd 4604180019048437139 b3 = some a1 ∧ fMul s2 a1 = some t1 ∧ fMul s4 4594685411790997151 = some c6 ∧
      fAdd 4597174411056806063 c6 = some c4 ∧ fMul s4 c4 = some d4 ∧ fAdd 4600877379321592324 d4 = some c2 ∧ fMul s4 c2 = some t2 ∧ fAdd t1 t2 = some R ∧
      fMul 4602678819172646912 f = some h1 ∧ fMul h1 f = some hf ∧ fMul (floatOfInt .f64 ki) 4604418534311723008 = some kh ∧ fAdd hf R = some p ∧
      fMul s p = some q ∧ fMul (floatOfInt .f64 ki) 4461442080421002358 = some kl ∧ fAdd q kl = some r ∧ fSub hf r = some u ∧ fSub u f = some v ∧ fSub kh v = some r0 := by
  simp only [logTail, Option.bind_eq_bind, Option.bind_eq_some_iff] at h
  obtain ⟨f, hf0, d, hd, s, hs, s2, hs2, s4, hs4, a7, ha7, a5, ha5, b5, hb5, a3, ha3, b3, hb3, a1, ha1, t1, ht1, c6, hc6, c4, hc4, d4, hd4, c2, hc2, t2, ht2, R, hR, h1, hh1, hf, hhf, kh, hkh, p, hp, q, hq, kl, hkl, r, hr, u, hu, v, hv, hz⟩ := h
  exact ⟨f, d, s, s2, s4, a7, a5, b5, a3, b3, a1, t1, c6, c4, d4, c2, t2, R, h1, hf, kh, p, q, kl, r, u, v, hf0, hd, hs, hs2, hs4, ha7, ha5, hb5, ha3, hb3, ha1, ht1, hc6, hc4, hd4, hc2, ht2, hR, hh1, hhf, hkh, hp, hq, hkl, hr, hu, hv, hz⟩

theorem log_big (x r0 : Nat) (hx : plainB x = true) (hneg : (FloatKind.f64.format.order x 0 == some .lt) = false) (hi1 : (FloatKind.f64.format.order x 9218868437227405311 == some .gt) = false)
    (hsm : (FloatKind.f64.format.order (fracB x) 4604544271217802189 == some .lt) = false) (ht : logTail (fracB x) (expB x) = some r0) (w : World) :
    Calls Tryz.prog 81 #[.float .f64 x] w fun e w' => e = .returned (.float .f64 r0) ∧ w = w' := by
  obtain ⟨h1, _, h3, _⟩ := plainB_parts hx
  obtain ⟨f, d, s, s2, s4, a7, a5, b5, a3, b3, a1, t1, c6, c4, d4, c2, t2, R, h5, hf, kh, p, q, kl, r, u, v, hf0, hd, hs, hs2, hs4, ha7, ha5, hb5, ha3, hb3, ha1, ht1, hc6, hc4, hd4, hc2, ht2, hR, hh1, hhf, hkh, hp, hq, hkl, hr, hu, hv, hz⟩ := logTail_parts ht
  clear ht
  replace hf0 := fun w => run_float_arith (P := Tryz.prog) w _ 36 _ _ _ _ hf0
  replace hd := fun w => run_float_arith (P := Tryz.prog) w _ 36 _ _ _ _ hd
  replace hs := fun w => run_float_arith (P := Tryz.prog) w _ 36 _ _ _ _ hs
  replace hs2 := fun w => run_float_arith (P := Tryz.prog) w _ 36 _ _ _ _ hs2
  replace hs4 := fun w => run_float_arith (P := Tryz.prog) w _ 36 _ _ _ _ hs4
  replace ha7 := fun w => run_float_arith (P := Tryz.prog) w _ 36 _ _ _ _ ha7
  replace ha5 := fun w => run_float_arith (P := Tryz.prog) w _ 36 _ _ _ _ ha5
  replace hb5 := fun w => run_float_arith (P := Tryz.prog) w _ 36 _ _ _ _ hb5
  replace ha3 := fun w => run_float_arith (P := Tryz.prog) w _ 36 _ _ _ _ ha3
  replace hb3 := fun w => run_float_arith (P := Tryz.prog) w _ 36 _ _ _ _ hb3
  replace ha1 := fun w => run_float_arith (P := Tryz.prog) w _ 36 _ _ _ _ ha1
  replace ht1 := fun w => run_float_arith (P := Tryz.prog) w _ 36 _ _ _ _ ht1
  replace hc6 := fun w => run_float_arith (P := Tryz.prog) w _ 36 _ _ _ _ hc6
  replace hc4 := fun w => run_float_arith (P := Tryz.prog) w _ 36 _ _ _ _ hc4
  replace hd4 := fun w => run_float_arith (P := Tryz.prog) w _ 36 _ _ _ _ hd4
  replace hc2 := fun w => run_float_arith (P := Tryz.prog) w _ 36 _ _ _ _ hc2
  replace ht2 := fun w => run_float_arith (P := Tryz.prog) w _ 36 _ _ _ _ ht2
  replace hR := fun w => run_float_arith (P := Tryz.prog) w _ 36 _ _ _ _ hR
  replace hh1 := fun w => run_float_arith (P := Tryz.prog) w _ 36 _ _ _ _ hh1
  replace hhf := fun w => run_float_arith (P := Tryz.prog) w _ 36 _ _ _ _ hhf
  replace hkh := fun w => run_float_arith (P := Tryz.prog) w _ 36 _ _ _ _ hkh
  replace hp := fun w => run_float_arith (P := Tryz.prog) w _ 36 _ _ _ _ hp
  replace hq := fun w => run_float_arith (P := Tryz.prog) w _ 36 _ _ _ _ hq
  replace hkl := fun w => run_float_arith (P := Tryz.prog) w _ 36 _ _ _ _ hkl
  replace hr := fun w => run_float_arith (P := Tryz.prog) w _ 36 _ _ _ _ hr
  replace hu := fun w => run_float_arith (P := Tryz.prog) w _ 36 _ _ _ _ hu
  replace hv := fun w => run_float_arith (P := Tryz.prog) w _ 36 _ _ _ _ hv
  replace hz := fun w => run_float_arith (P := Tryz.prog) w _ 36 _ _ _ _ hz
  go_enter Tryz.func81, Tryz.ntmps81
  go_wp2_with (first
    | (go_at_call 88; refine (isInf1_any _ _).mono ?_; rintro e w' ⟨rfl, rfl⟩)
    | (go_at_call 32; refine (isNaN_any _ _).mono ?_; rintro e w' ⟨rfl, rfl⟩)
    | (go_at_call 93; refine (Frexp_any _ hx _).mono ?_; rintro e w' ⟨rfl, rfl⟩))
  go_ret
  exact ⟨rfl, rfl⟩

theorem log_small (x r0 f1 : Nat) (hx : plainB x = true) (hneg : (FloatKind.f64.format.order x 0 == some .lt) = false) (hi1 : (FloatKind.f64.format.order x 9218868437227405311 == some .gt) = false)
    (hsm : (FloatKind.f64.format.order (fracB x) 4604544271217802189 == some .lt) = true) (hm : fMul (fracB x) 4611686018427387904 = some f1) (ht : logTail f1 (wrap64 (expB x - 1)) = some r0) (w : World) :
    Calls Tryz.prog 81 #[.float .f64 x] w fun e w' => e = .returned (.float .f64 r0) ∧ w = w' := by
  obtain ⟨h1, _, h3, _⟩ := plainB_parts hx
  obtain ⟨f, d, s, s2, s4, a7, a5, b5, a3, b3, a1, t1, c6, c4, d4, c2, t2, R, h5, hf, kh, p, q, kl, r, u, v, hf0, hd, hs, hs2, hs4, ha7, ha5, hb5, ha3, hb3, ha1, ht1, hc6, hc4, hd4, hc2, ht2, hR, hh1, hhf, hkh, hp, hq, hkl, hr, hu, hv, hz⟩ := logTail_parts ht
  clear ht
  replace hm := fun w => run_float_arith (P := Tryz.prog) w _ 36 _ _ _ _ hm
  replace hf0 := fun w => run_float_arith (P := Tryz.prog) w _ 36 _ _ _ _ hf0
  replace hd := fun w => run_float_arith (P := Tryz.prog) w _ 36 _ _ _ _ hd
  replace hs := fun w => run_float_arith (P := Tryz.prog) w _ 36 _ _ _ _ hs
  replace hs2 := fun w => run_float_arith (P := Tryz.prog) w _ 36 _ _ _ _ hs2
  replace hs4 := fun w => run_float_arith (P := Tryz.prog) w _ 36 _ _ _ _ hs4
  replace ha7 := fun w => run_float_arith (P := Tryz.prog) w _ 36 _ _ _ _ ha7
  replace ha5 := fun w => run_float_arith (P := Tryz.prog) w _ 36 _ _ _ _ ha5
  replace hb5 := fun w => run_float_arith (P := Tryz.prog) w _ 36 _ _ _ _ hb5
  replace ha3 := fun w => run_float_arith (P := Tryz.prog) w _ 36 _ _ _ _ ha3
  replace hb3 := fun w => run_float_arith (P := Tryz.prog) w _ 36 _ _ _ _ hb3
  replace ha1 := fun w => run_float_arith (P := Tryz.prog) w _ 36 _ _ _ _ ha1
  replace ht1 := fun w => run_float_arith (P := Tryz.prog) w _ 36 _ _ _ _ ht1
  replace hc6 := fun w => run_float_arith (P := Tryz.prog) w _ 36 _ _ _ _ hc6
  replace hc4 := fun w => run_float_arith (P := Tryz.prog) w _ 36 _ _ _ _ hc4
  replace hd4 := fun w => run_float_arith (P := Tryz.prog) w _ 36 _ _ _ _ hd4
  replace hc2 := fun w => run_float_arith (P := Tryz.prog) w _ 36 _ _ _ _ hc2
  replace ht2 := fun w => run_float_arith (P := Tryz.prog) w _ 36 _ _ _ _ ht2
  replace hR := fun w => run_float_arith (P := Tryz.prog) w _ 36 _ _ _ _ hR
  replace hh1 := fun w => run_float_arith (P := Tryz.prog) w _ 36 _ _ _ _ hh1
  replace hhf := fun w => run_float_arith (P := Tryz.prog) w _ 36 _ _ _ _ hhf
  replace hkh := fun w => run_float_arith (P := Tryz.prog) w _ 36 _ _ _ _ hkh
  replace hp := fun w => run_float_arith (P := Tryz.prog) w _ 36 _ _ _ _ hp
  replace hq := fun w => run_float_arith (P := Tryz.prog) w _ 36 _ _ _ _ hq
  replace hkl := fun w => run_float_arith (P := Tryz.prog) w _ 36 _ _ _ _ hkl
  replace hr := fun w => run_float_arith (P := Tryz.prog) w _ 36 _ _ _ _ hr
  replace hu := fun w => run_float_arith (P := Tryz.prog) w _ 36 _ _ _ _ hu
  replace hv := fun w => run_float_arith (P := Tryz.prog) w _ 36 _ _ _ _ hv
  replace hz := fun w => run_float_arith (P := Tryz.prog) w _ 36 _ _ _ _ hz
  go_enter Tryz.func81, Tryz.ntmps81
  go_wp2_with (first
    | (go_at_call 88; refine (isInf1_any _ _).mono ?_; rintro e w' ⟨rfl, rfl⟩)
    | (go_at_call 32; refine (isNaN_any _ _).mono ?_; rintro e w' ⟨rfl, rfl⟩)
    | (go_at_call 93; refine (Frexp_any _ hx _).mono ?_; rintro e w' ⟨rfl, rfl⟩))
  go_ret
  exact ⟨rfl, rfl⟩

/-- What the code's logarithm gives for a positive number that is neither small nor infinite. -/
def logO (x : Nat) : Option Nat :=
  if plainB x && !(FloatKind.f64.format.order x 0 == some .lt) && !(FloatKind.f64.format.order x 9218868437227405311 == some .gt) then
    if FloatKind.f64.format.order (fracB x) 4604544271217802189 == some .lt then do
      let f1 ← fMul (fracB x) 4611686018427387904
      logTail f1 (wrap64 (expB x - 1))
    else logTail (fracB x) (expB x)
  else none

theorem log_any (x r0 : Nat) (h : logO x = some r0) (w : World) :
    Calls Tryz.prog 81 #[.float .f64 x] w fun e w' => e = .returned (.float .f64 r0) ∧ w = w' := by
  unfold logO at h
  split at h
  · rename_i hc
    simp only [Bool.and_eq_true, Bool.not_eq_true'] at hc
    split at h
    · rename_i hs
      simp only [Option.bind_eq_bind, Option.bind_eq_some_iff] at h
      obtain ⟨f1, hf1, ht⟩ := h
      exact log_small x r0 f1 hc.1.1 hc.1.2 hc.2 hs hf1 ht w
    · rename_i hs
      exact log_big x r0 hc.1.1 hc.1.2 hc.2 (by simpa using hs) h w
  · cases h

theorem log_zero (w : World) :
    Calls Tryz.prog 81 #[.float .f64 0] w fun e w' => e = .returned (.float .f64 18442240474082181120) ∧ w = w' := by
  have h1 : (FloatKind.f64.format.order 0 0 != some .eq) = false := by decide
  have h2 : (FloatKind.f64.format.order 0 9218868437227405311 == some .gt) = false := by decide
  have h3 : (FloatKind.f64.format.order 0 0 == some .lt) = false := by decide
  have h4 : (FloatKind.f64.format.order 0 0 == some .eq) = true := by decide
  go_enter Tryz.func81, Tryz.ntmps81
  go_wp2_with (first
    | (go_at_call 88; refine (isInf1_any _ _).mono ?_; rintro e w' ⟨rfl, rfl⟩)
    | (go_at_call 32; refine (isNaN_any _ _).mono ?_; rintro e w' ⟨rfl, rfl⟩)
    | (go_at_call 55; refine (inf_neg _).mono ?_; rintro e w' ⟨rfl, rfl⟩))
  go_ret
  exact ⟨rfl, rfl⟩

theorem Log_of (x r : Nat) (h : ∀ w, Calls Tryz.prog 81 #[.float .f64 x] w fun e w' => e = .returned (.float .f64 r) ∧ w = w') (w : World) :
    Calls Tryz.prog 68 #[.float .f64 x] w fun e w' => e = .returned (.float .f64 r) ∧ w = w' := by
  go_enter Tryz.func68, Tryz.ntmps68
  go_wp2_with (go_at_call 81; refine (h _).mono ?_; rintro e w' ⟨rfl, rfl⟩)
  go_ret
  exact ⟨rfl, rfl⟩

theorem log10_of (x r q : Nat) (h : ∀ w, Calls Tryz.prog 81 #[.float .f64 x] w fun e w' => e = .returned (.float .f64 r) ∧ w = w') (hq : fMul r 4601495173785380110 = some q) (w : World) :
    Calls Tryz.prog 50 #[.float .f64 x] w fun e w' => e = .returned (.float .f64 q) ∧ w = w' := by
  replace hq := fun w => run_float_arith (P := Tryz.prog) w _ 36 _ _ _ _ hq
  go_enter Tryz.func50, Tryz.ntmps50
  go_wp2_with (go_at_call 68; refine (Log_of _ _ h _).mono ?_; rintro e w' ⟨rfl, rfl⟩)
  go_ret
  exact ⟨rfl, rfl⟩

theorem Log10_of (x r q : Nat) (h : ∀ w, Calls Tryz.prog 81 #[.float .f64 x] w fun e w' => e = .returned (.float .f64 r) ∧ w = w') (hq : fMul r 4601495173785380110 = some q) (w : World) :
    Calls Tryz.prog 33 #[.float .f64 x] w fun e w' => e = .returned (.float .f64 q) ∧ w = w' := by
  go_enter Tryz.func33, Tryz.ntmps33
  go_wp2_with (go_at_call 50; refine (log10_of _ _ _ h hq _).mono ?_; rintro e w' ⟨rfl, rfl⟩)
  go_ret
  exact ⟨rfl, rfl⟩

def log10O (x : Nat) : Option Nat := do
  let r ← logO x
  fMul r 4601495173785380110

theorem Log10_any (x q : Nat) (h : log10O x = some q) (w : World) :
    Calls Tryz.prog 33 #[.float .f64 x] w fun e w' => e = .returned (.float .f64 q) ∧ w = w' := by
  simp only [log10O, Option.bind_eq_bind, Option.bind_eq_some_iff] at h
  obtain ⟨r, hr, hq⟩ := h
  exact Log10_of x r q (log_any x r hr) hq w

theorem Log10_zero (w : World) :
    Calls Tryz.prog 33 #[.float .f64 0] w fun e w' => e = .returned (.float .f64 18442240474082181120) ∧ w = w' :=
  Log10_of 0 _ _ log_zero (by decide) w
end Go.Proofs.YthggdkpikjekmaaGreatRDoor
