/- The unrounded scaling of strconv: small functions. -/
import Derived.Test.YthggdkpikjekmaaGreatRDoorChecked
import Derived.Test.YthggdkpikjekmaaGreatRDoorShelf
import Derived.WalkKit
import Derived.WalkLawsBesides
import Derived.KernelRfl
import Derived.Deep.QuietTactic
import Derived.BigQuiet
import Derived.Lib.Hide
namespace Go.Proofs.YthggdkpikjekmaaGreatRDoor
open Go.RowKit
set_option maxRecDepth 100000
set_option linter.unusedVariables false

theorem log10Pow2_any (x : Int) (w : World) (h1 : -2000 ≤ x) (h2 : x ≤ 2000) :
    Calls Tryz.prog 63 #[.int .i64 x] w fun e w' => e = .returned (.int .i64 (x * 78913 / 262144)) ∧ w = w' := by
  go_enter Tryz.func63, Tryz.ntmps63
  go_wp2
  go_ret
  exact ⟨rfl, rfl⟩
theorem log2Pow10_any (x : Int) (w : World) (h1 : -2000 ≤ x) (h2 : x ≤ 2000) :
    Calls Tryz.prog 123 #[.int .i64 x] w fun e w' => e = .returned (.int .i64 (x * 108853 / 32768)) ∧ w = w' := by
  go_enter Tryz.func123, Tryz.ntmps123
  go_wp2
  go_ret
  exact ⟨rfl, rfl⟩
theorem unmin_any (x : Int) (w : World) :
    Calls Tryz.prog 129 #[.int .u64 x] w fun e w' => e = .returned (.int .u64 (IntKind.u64.wrap (IntKind.u64.wrap (x * 4) - 2))) ∧ w = w' := by
  go_enter Tryz.func129, Tryz.ntmps129
  go_wp2
  go_ret
  exact ⟨rfl, rfl⟩
def roundU (x : Int) : Int := IntKind.u64.wrap (IntKind.u64.wrap (x + 1) + bits BinOp.and IntKind.u64 (x / 4) 1) / 4
theorem round_any (x : Int) (w : World) :
    Calls Tryz.prog 128 #[.int .u64 x] w fun e w' => e = .returned (.int .u64 (roundU x)) ∧ w = w' := by
  go_enter Tryz.func128, Tryz.ntmps128
  go_wp2
  go_ret
  exact ⟨rfl, rfl⟩
theorem bool2u_any (b : Bool) (w : World) :
    Calls Tryz.prog 143 #[.bool b] w fun e w' => e = .returned (.int .u64 (if b then 1 else 0)) ∧ w = w' := by
  cases b
  all_goals go_enter Tryz.func143, Tryz.ntmps143
  all_goals go_wp2
  all_goals go_ret
  all_goals exact ⟨rfl, rfl⟩
theorem bool2_any (b : Bool) (w : World) :
    Calls Tryz.prog 142 #[.bool b] w fun e w' => e = .returned (.int .u64 (if b then 1 else 0)) ∧ w = w' := by
  cases b
  all_goals go_enter Tryz.func142, Tryz.ntmps142
  all_goals go_wp2
  all_goals go_ret
  all_goals exact ⟨rfl, rfl⟩
theorem bool2u_same (b : Bool) (w : World) :
    Calls Tryz.prog 143 #[.bool b] w fun e w' => e = .returned (.int .u64 (if b then 1 else 0)) ∧ w' = w :=
  (bool2u_any b w).mono fun _ _ h => ⟨h.1, h.2.symm⟩
def divU (x : Int) : Int := bits BinOp.or IntKind.u64 (bits BinOp.or IntKind.u64 (IntKind.u64.wrap (x.tdiv 10)) (bits BinOp.and IntKind.u64 x 1)) (if (x % 10 != 0) = false then 0 else 1)
theorem div_any (x : Int) (w : World) (hx : 0 ≤ x) :
    Calls Tryz.prog 130 #[.int .u64 x, .int .u64 10] w fun e w' => e = .returned (.int .u64 (divU x)) ∧ ∃ n, w' = w.drewN n := by
  by_cases h : (x % 10 != 0) = false
  · have hd : divU x = bits BinOp.or IntKind.u64 (bits BinOp.or IntKind.u64 (IntKind.u64.wrap (x.tdiv 10)) (bits BinOp.and IntKind.u64 x 1)) 0 := by rw [divU, if_pos h]
    rw [hd]
    clear hd
    go_enter Tryz.func130, Tryz.ntmps130
    go_wp2
    go_quiet ((go_at_call 143; exact Calls.quiet_of_same (bool2u_same _ _)))
    go_wp2
    go_ret
    exact ⟨rfl, _, rfl⟩
  · have hd : divU x = bits BinOp.or IntKind.u64 (bits BinOp.or IntKind.u64 (IntKind.u64.wrap (x.tdiv 10)) (bits BinOp.and IntKind.u64 x 1)) 1 := by rw [divU, if_neg h]
    have h' : (x % 10 != 0) = true := by simpa using h
    clear h
    rw [hd]
    clear hd
    go_enter Tryz.func130, Tryz.ntmps130
    go_wp2
    go_quiet ((go_at_call 143; exact Calls.quiet_of_same (bool2u_same _ _)))
    go_wp2
    go_ret
    exact ⟨rfl, _, rfl⟩

theorem bool2_same (b : Bool) (w : World) :
    Calls Tryz.prog 142 #[.bool b] w fun e w' => e = .returned (.int .u64 (if b then 1 else 0)) ∧ w' = w :=
  (bool2_any b w).mono fun _ _ h => ⟨h.1, h.2.symm⟩

/-- The high and the low half of a product. -/
def mulHi (x y : Nat) : Nat := x * y / 18446744073709551616
def mulLo (x y : Nat) : Nat := x * y % 18446744073709551616

theorem mul64_same (x y : Nat) (hx : x < 18446744073709551616) (hy : y < 18446744073709551616) (w : World) :
    Calls Tryz.prog 141 #[.int .u64 x, .int .u64 y] w fun e w' => e = .returned (.tuple #[.int .u64 (mulHi x y), .int .u64 (mulLo x y)]) ∧ w = w' :=
  (Tryz.bits_Mul64 x y hx hy w).mono fun _ _ h => ⟨h.1, h.2.symm⟩

theorem and63 (k : Nat) (hk : k < 64) : bits BinOp.and IntKind.i64 (k : Int) 63 = (k : Int) := by
  have : ∀ j : Fin 64, bits BinOp.and IntKind.i64 (j.val : Int) 63 = (j.val : Int) := by decide
  exact this ⟨k, hk⟩

/-- What uscale gives of the two products' halves. -/
def uscaleU (h m m2 k : Nat) : Int :=
  if (IntKind.u64.wrap ((h : Int) / 2 ^ k * 2 ^ k) != (h : Int)) = true then bits BinOp.or IntKind.u64 ((h : Int) / 2 ^ k) 1
  else bits BinOp.or IntKind.u64 (IntKind.u64.wrap ((h : Int) - (if decide ((m : Int) < (m2 : Int)) = true then 1 else 0)) / 2 ^ k) (if decide (1 < IntKind.u64.wrap ((m : Int) - (m2 : Int))) = true then 1 else 0)

set_option maxHeartbeats 400000 in
theorem uscale_core (x hi lo k h m m2 l2 : Nat) (a : Nat) (w : World) (hk : k < 64)
    (M1 : Hid (∀ w : World, Calls Tryz.prog 141 #[.int .u64 x, .int .u64 hi] w fun e w' => e = .returned (.tuple #[.int .u64 h, .int .u64 m]) ∧ w = w'))
    (M2 : Hid (∀ w : World, Calls Tryz.prog 141 #[.int .u64 x, .int .u64 lo] w fun e w' => e = .returned (.tuple #[.int .u64 m2, .int .u64 l2]) ∧ w = w'))
    (h0 : w.cell? ⟨a, 0, none⟩ = some (.int .u64 hi)) (h1 : w.cell? ⟨a, 1, none⟩ = some (.int .u64 lo)) (h2 : w.cell? ⟨a, 2, none⟩ = some (.int .i64 k)) :
    Calls Tryz.prog 124 #[.int .u64 x, .pointer (some ⟨a, 0, none⟩)] w fun e w' => e = .returned (.int .u64 (uscaleU h m m2 k)) ∧ ∃ n, w' = w.drewN n := by
  have hand := and63 k hk
  by_cases ht : (IntKind.u64.wrap ((h : Int) / 2 ^ k * 2 ^ k) != (h : Int)) = true
  · rw [uscaleU, if_pos ht]
    go_enter Tryz.func124, Tryz.ntmps124
    go_wp2_with fail
    refine (M1.out _).mono ?_
    rintro e w' ⟨rfl, rfl⟩
    go_wp2_with fail
    go_ret
    exact ⟨rfl, 0, rfl⟩
  · have hf : (IntKind.u64.wrap ((h : Int) / 2 ^ k * 2 ^ k) != (h : Int)) = false := by simpa using ht
    rw [uscaleU, if_neg ht]
    clear ht
    go_enter Tryz.func124, Tryz.ntmps124
    go_wp2_with fail
    refine (M1.out _).mono ?_
    rintro e w' ⟨rfl, rfl⟩
    go_wp2_with fail
    refine (M2.out _).mono ?_
    rintro e w' ⟨rfl, rfl⟩
    go_wp2_with fail
    refine (bool2_any _ _).mono ?_
    rintro e w' ⟨rfl, rfl⟩
    go_wp2_with fail
    all_goals go_quiet ((go_at_call 142; exact Calls.quiet_of_same (bool2_same _ _)))
    all_goals go_wp2_with fail
    all_goals (go_ret; exact ⟨rfl, _, rfl⟩)

theorem uscale_any (x hi lo k : Nat) (a : Nat) (w : World) (hx : x < 18446744073709551616) (hh : hi < 18446744073709551616) (hl : lo < 18446744073709551616) (hk : k < 64)
    (h0 : w.cell? ⟨a, 0, none⟩ = some (.int .u64 hi)) (h1 : w.cell? ⟨a, 1, none⟩ = some (.int .u64 lo)) (h2 : w.cell? ⟨a, 2, none⟩ = some (.int .i64 k)) :
    Calls Tryz.prog 124 #[.int .u64 x, .pointer (some ⟨a, 0, none⟩)] w fun e w' => e = .returned (.int .u64 (uscaleU (mulHi x hi) (mulLo x hi) (mulHi x lo) k)) ∧ ∃ n, w' = w.drewN n :=
  uscale_core x hi lo k _ _ _ _ a w hk (mul64_same x hi hx hh) (mul64_same x lo hx hl) h0 h1 h2

/-- An entry of the table of powers of ten, as the world holds it. -/
def TabAt (w : World) (i hi lo : Nat) : Prop :=
  w.cell? ⟨6, i * 2, none⟩ = some (.int .u64 hi) ∧ w.cell? ⟨6, i * 2 + 1, none⟩ = some (.int .u64 lo)

theorem prescale_any (i hi lo a : Nat) (e lp : Int) (P : Int) (w : World) (hi0 : i < 696) (hP : P - -348 = (i : Int)) (ht : TabAt w i hi lo) (ha : 6 < a)
    (c0 : w.cell? ⟨a, 0, none⟩ = some (.int .u64 0)) (c1 : w.cell? ⟨a, 1, none⟩ = some (.int .u64 0)) (c2 : w.cell? ⟨a, 2, none⟩ = some (.int .i64 0))
    (f0 : w.frozen? ⟨a, 0, none⟩ = false) (f1 : w.frozen? ⟨a, 1, none⟩ = false) (f2 : w.frozen? ⟨a, 2, none⟩ = false)
    (he1 : -2000 ≤ e) (he2 : e ≤ 2000) (hl1 : -2000 ≤ lp) (hl2 : lp ≤ 2000) :
    Calls Tryz.prog 122 #[.pointer (some ⟨a, 0, none⟩), .int .i64 e, .int .i64 P, .int .i64 lp] w fun en w' => en = .returned (.tuple #[]) ∧ w' = ((w.setCell ⟨a, 0, none⟩ (.int .u64 hi)).setCell ⟨a, 1, none⟩ (.int .u64 lo)).setCell ⟨a, 2, none⟩ (.int .i64 (-(e + lp + 3))) := by
  obtain ⟨t0, t1⟩ := ht
  go_enter Tryz.func122, Tryz.ntmps122
  go_wp2
  go_end0
  exact ⟨rfl, rfl⟩

theorem lt_of_cell {w : World} {b o : Nat} {v : Value} (h : w.cell? ⟨b, o, none⟩ = some v) : b < w.heap.size := by
  rcases Nat.lt_or_ge b w.heap.size with hlt | hge
  · exact hlt
  · simp [World.cell?, Array.getElem?_eq_none hge] at h

theorem TabAt.alloc {w : World} {i hi lo : Nat} (h : TabAt w i hi lo) (o : Obj) : TabAt (w.alloc o) i hi lo :=
  ⟨(World.cell?_alloc_lt _ _ _ (lt_of_cell h.1)).trans h.1, (World.cell?_alloc_lt _ _ _ (lt_of_cell h.1)).trans h.2⟩

/-- What fixedWidthFloat gives before rounding, and behind it. -/
def fwU (m hi lo k : Nat) : Int := uscaleU (mulHi m hi) (mulLo m hi) (mulHi m lo) k

set_option maxHeartbeats 800000 in
theorem fixedWidth_core (m i hi lo k : Nat) (e p lp u : Int) (w : World) (hm : m < 18446744073709551616) (hh : hi < 18446744073709551616) (hl : lo < 18446744073709551616) (hk : k < 64)
    (he1 : -1500 ≤ e) (he2 : e ≤ 1500) (hp : Hid (3 - (e + 63) * 78913 / 262144 = p)) (hp1 : -600 ≤ p) (hp2 : p ≤ 600) (hi0 : i < 696) (hpi : p - -348 = (i : Int))
    (hlp : Hid (p * 108853 / 32768 = lp)) (hlp1 : -2000 ≤ lp) (hlp2 : lp ≤ 2000) (hs : Hid (-(e + lp + 3) = (k : Int))) (hu : Hid (fwU m hi lo k = u)) (hu0 : 0 ≤ u)
    (ht : TabAt w i hi lo) (h4 : w.cell? ⟨0, 4, none⟩ = some (.int .u64 10000)) :
    Calls Tryz.prog 105 #[.int .u64 m, .int .i64 e, .int .i64 4, .int .i64 3, .int .u8 101] w fun en w' =>
      en = .returned (.tuple #[.int .u64 (roundU (if 39998 ≤ u then divU u else u)), .int .i64 (-(if 39998 ≤ u then p - 1 else p))]) ∧ Below w.heap.size w w' := by
  have hlt := lt_of_cell ht.1
  have hlt4 := lt_of_cell h4
  have he1' : -2000 ≤ e := by omega
  have he2' : e ≤ 2000 := by omega
  have ht' := Lib.hid (ht.alloc (.cells #[.int .u64 0, .int .u64 0, .int .i64 0] 162))
  by_cases hle : 39998 ≤ u
  · rw [if_pos hle, if_pos hle]
    go_enter Tryz.func105, Tryz.ntmps105
    go_wp2_with fail
    refine (log10Pow2_any _ _ (by omega) (by omega)).mono ?_
    rintro en w' ⟨rfl, rfl⟩
    go_wp2_with fail
    rw [hp.out]
    refine (log2Pow10_any _ _ (by omega) (by omega)).mono ?_
    rintro en w' ⟨rfl, rfl⟩
    rw [hlp.out]
    go_wp2_with fail
    refine (prescale_any i hi lo w.heap.size e lp p _ hi0 hpi ht'.out hlt (by simp) (by simp) (by simp) (by simp) (by simp) (by simp) he1' he2' hlp1 hlp2).mono ?_
    rintro en w' ⟨rfl, rfl⟩
    go_wp2_with fail
    rw [hs.out]
    refine (uscale_any m hi lo k w.heap.size _ hm hh hl hk (by simp) (by simp) (by simp)).mono ?_
    rintro en w' ⟨rfl, n1, rfl⟩
    rw [show uscaleU (mulHi m hi) (mulLo m hi) (mulHi m lo) k = u from hu.out]
    go_wp2_with fail
    refine (unmin_any _ _).mono ?_
    rintro en w' ⟨rfl, rfl⟩
    have hmin : IntKind.u64.wrap (IntKind.u64.wrap (10000 * 4) - 2) = 39998 := by decide
    rw [hmin]
    clear hmin
    go_wp2_with fail
    refine (div_any _ _ hu0).mono ?_
    rintro en w' ⟨rfl, n2, rfl⟩
    go_wp2_with fail
    refine (round_any _ _).mono ?_
    rintro en w' ⟨rfl, rfl⟩
    go_wp2_with fail
    go_ret2
    exact ⟨rfl, below_drewN ((Below.refl _ _).alloc (Nat.le_refl _) _) _⟩
  · rw [if_neg hle, if_neg hle]
    go_enter Tryz.func105, Tryz.ntmps105
    go_wp2_with fail
    refine (log10Pow2_any _ _ (by omega) (by omega)).mono ?_
    rintro en w' ⟨rfl, rfl⟩
    go_wp2_with fail
    rw [hp.out]
    refine (log2Pow10_any _ _ (by omega) (by omega)).mono ?_
    rintro en w' ⟨rfl, rfl⟩
    rw [hlp.out]
    go_wp2_with fail
    refine (prescale_any i hi lo w.heap.size e lp p _ hi0 hpi ht'.out hlt (by simp) (by simp) (by simp) (by simp) (by simp) (by simp) he1' he2' hlp1 hlp2).mono ?_
    rintro en w' ⟨rfl, rfl⟩
    go_wp2_with fail
    rw [hs.out]
    refine (uscale_any m hi lo k w.heap.size _ hm hh hl hk (by simp) (by simp) (by simp)).mono ?_
    rintro en w' ⟨rfl, n1, rfl⟩
    rw [show uscaleU (mulHi m hi) (mulLo m hi) (mulHi m lo) k = u from hu.out]
    go_wp2_with fail
    refine (unmin_any _ _).mono ?_
    rintro en w' ⟨rfl, rfl⟩
    have hmin : IntKind.u64.wrap (IntKind.u64.wrap (10000 * 4) - 2) = 39998 := by decide
    rw [hmin]
    clear hmin
    go_wp2_with fail
    refine (round_any _ _).mono ?_
    rintro en w' ⟨rfl, rfl⟩
    go_wp2_with fail
    go_ret2
    exact ⟨rfl, below_drewN ((Below.refl _ _).alloc (Nat.le_refl _) _) _⟩
end Go.Proofs.YthggdkpikjekmaaGreatRDoor
