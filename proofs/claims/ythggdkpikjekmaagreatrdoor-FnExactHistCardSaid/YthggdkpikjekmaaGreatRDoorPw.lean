/- The ends of the buckets, as the code reckons them, and their texts. -/
import Derived.Test.YthggdkpikjekmaaGreatRDoorExp
import Derived.Test.YthggdkpikjekmaaGreatRDoorPow
import Derived.Laws.Concat
namespace Go.Proofs.YthggdkpikjekmaaGreatRDoor
open Go.RowKit Go.Lib
set_option maxRecDepth 100000

def xE (x : Nat) : Int := bits BinOp.and IntKind.i64 ((x : Int) / 4503599627370496) 2047
def xM (x : Nat) : Nat := x % 4503599627370496 + 4503599627370496
def xP (x : Nat) : Int := 3 - (xE x - 1086 + 63) * 78913 / 262144
def xI (x : Nat) : Nat := (xP x - -348).toNat
def xLp (x : Nat) : Int := xP x * 108853 / 32768
def xK (x : Nat) : Nat := (-(xE x - 1086 + xLp x + 3)).toNat
def xRow (x : Nat) : Nat × Nat := (Go.Pinned.pow10Rows[xI x]?).getD (0, 0)
def xU (x : Nat) : Int := fwU (xM x * 2048) (xRow x).1 (xRow x).2 (xK x)
def xD (x : Nat) : Nat := (roundU (if 39998 ≤ xU x then divU (xU x) else xU x)).toNat
def xQ (x : Nat) : Int := -(if 39998 ≤ xU x then xP x - 1 else xP x)
def digs (u : Nat) : List UInt8 :=
  if u < 10000 then [UInt8.ofNat (48 + u / 1000), UInt8.ofNat (48 + u / 100 % 10), UInt8.ofNat (48 + u / 10 % 10), UInt8.ofNat (48 + u % 10)]
  else [UInt8.ofNat (48 + u / 10000), UInt8.ofNat (48 + u / 1000 % 10), UInt8.ofNat (48 + u / 100 % 10), UInt8.ofNat (48 + u / 10 % 10), UInt8.ofNat (48 + u % 10)]
/-- The text of a number at 'e', three digits. -/
def expT (x : Nat) : List UInt8 := efg (digs (xD x)) (trimN (digs (xD x)) (digs (xD x)).length) (((digs (xD x)).length : Int) + xQ x)

/-- What the walk asks of the number. -/
def okX (x : Nat) : Bool :=
  decide ((x : Int) / 4503599627370496 ≤ 2046) && !((x : Int) / 9223372036854775808 != 0) && decide (1 ≤ xE x) && decide (xE x ≤ 2046) &&
  decide (bits BinOp.or IntKind.u64 (bits BinOp.and IntKind.u64 (x : Int) 4503599627370495) 4503599627370496 = (xM x : Int)) && decide (Go.Lib.bitLen (xM x) = 53) &&
  decide ((xRow x).1 < 18446744073709551616) && decide ((xRow x).2 < 18446744073709551616) && decide (xK x < 64) && decide (-600 ≤ xP x) && decide (xP x ≤ 600) && decide (xI x < 696) && decide (xP x - -348 = (xI x : Int)) &&
  decide (-2000 ≤ xLp x) && decide (xLp x ≤ 2000) && decide (-(xE x - 1086 + xLp x + 3) = (xK x : Int)) && decide (0 ≤ xU x) &&
  decide (roundU (if 39998 ≤ xU x then divU (xU x) else xU x) = (xD x : Int)) && decide (1000 ≤ xD x) && decide (xD x < 100000) && decide (-12 ≤ xQ x) && decide (xQ x ≤ 45) && (Go.Pinned.pow10Rows[xI x]?).isSome && decide (1 ≤ trimN (digs (xD x)) (digs (xD x)).length)

theorem digs_eq (u : Nat) (h1 : 1000 ≤ u) (h2 : u < 100000) : decDigits u = digs u ∧ 4 ≤ nDigits u ∧ nDigits u ≤ 5 := by
  have e1 : nDigits u = if u < 10000 then 4 else 5 := by
    split
    · exact nDigits_unique 3 u (by omega) (by omega)
    · exact nDigits_unique 4 u (by omega) (by omega)
  refine ⟨?_, by rw [e1]; split <;> omega, by rw [e1]; split <;> omega⟩
  rw [decDigits_eq, e1]
  unfold digs
  split
  · rename_i h
    have a1 : u / 1000 % 10 = u / 1000 := by omega
    simp [List.range, List.range.loop, List.map, dg, a1]
  · rename_i h
    have a1 : u / 10000 % 10 = u / 10000 := by omega
    simp [List.range, List.range.loop, List.map, dg, a1]

/-- expText. -/
theorem expText_any (x : Nat) (hok : okX x = true) (w : World) (hT : Tabs w) :
    Calls Tryz.prog 34 #[.float .f64 x] w fun e w' => e = .returned (.string ⟨(expT x).toArray⟩) ∧ Below w.heap.size w w' := by
  simp only [okX, Bool.and_eq_true, decide_eq_true_eq, Bool.not_eq_true'] at hok
  obtain ⟨⟨⟨⟨⟨⟨⟨⟨⟨⟨⟨⟨⟨⟨⟨⟨⟨⟨⟨⟨⟨⟨⟨c1, c2⟩, c3⟩, c4⟩, c5⟩, c6⟩, c7⟩, c8⟩, c9⟩, c10⟩, c11⟩, c12⟩, c13⟩, c14⟩, c15⟩, c16⟩, c17⟩, c18⟩, c19⟩, c20⟩, c21⟩, c22⟩, c23⟩, c24⟩ := hok
  obtain ⟨d1, d2, d3⟩ := digs_eq (xD x) c19 c20
  obtain ⟨⟨hi, lo⟩, hrow⟩ := Option.isSome_iff_exists.1 c23
  have hr : xRow x = (hi, lo) := by rw [xRow, hrow]; rfl
  refine exp_of x (expT x) w (ff_core x (expT x) w hT fun v hv hz A c hown => ?_)
  have hcore := ftoa_core w.heap.size x (xM x) (xI x) hi lo (xK x) (xD x) (xE x) (xP x) (xLp x) (xU x) (xQ x) A c v c1 c2 rfl c3 c4 c5 (by unfold xM; omega) (by unfold xM; omega) c6
    (by rw [hr] at c7; exact c7) (by rw [hr] at c8; exact c8) c9 rfl c10 c11 c12 c13 rfl c14 c15 c16 (by show fwU _ _ _ _ = _; rw [xU, hr]) c17 c18 rfl (by omega) c20 c21 c22 d2 d3 (by rw [d1]; exact c24) hv (hv.tab _ _ _ hrow) hown hz
  rw [d1] at hcore
  exact hcore

/-- x times the multiplier, n times over. -/
def mulN : Nat → Nat → Option Nat
  | 0, x => some x
  | n + 1, x => (fMul x 4607796996517101770).bind (mulN n)

theorem mulN_succ (n : Nat) : ∀ x, mulN (n + 1) x = (mulN n x).bind (fMul · 4607796996517101770) := by
  induction n with
  | zero => intro x; simp [mulN]
  | succ n ih =>
    intro x
    rw [mulN]
    cases h : fMul x 4607796996517101770 with
    | none => simp [mulN, h]
    | some y => rw [Option.bind_some, ih y]; rw [show mulN (n + 1) x = mulN n y by rw [mulN, h]; rfl]

def chk : Nat → Nat → Bool
  | 0, x => okX x
  | n + 1, x => okX x && match fMul x 4607796996517101770 with | some y => chk n y | none => false

theorem chk_at : ∀ (n x : Nat), chk n x = true → ∀ j, j ≤ n → ∃ y, mulN j x = some y ∧ okX y = true
  | 0, x, h, j, hj => by
    obtain rfl : j = 0 := by omega
    exact ⟨x, rfl, h⟩
  | n + 1, x, h, j, hj => by
    simp only [chk, Bool.and_eq_true] at h
    obtain ⟨h1, h2⟩ := h
    cases hm : fMul x 4607796996517101770 with
    | none => rw [hm] at h2; cases h2
    | some y =>
      rw [hm] at h2
      cases j with
      | zero => exact ⟨x, rfl, h1⟩
      | succ j =>
        obtain ⟨z, hz, hk⟩ := chk_at n y h2 j (by omega)
        exact ⟨z, by rw [mulN, hm]; exact hz, hk⟩

def pw (i : Nat) : Nat := (mulN i 4472406533629990549).getD 0

set_option maxHeartbeats 0 in
theorem chk_all : chk 486 4472406533629990549 = true := by decide +kernel

theorem pw_ok (i : Nat) (hi : i ≤ 486) : okX (pw i) = true := by
  obtain ⟨y, hy, hk⟩ := chk_at _ _ chk_all i hi
  rw [pw, hy]
  exact hk

theorem pw_succ (i : Nat) (hi : i < 486) : fMul (pw i) 4607796996517101770 = some (pw (i + 1)) := by
  obtain ⟨y, hy, _⟩ := chk_at _ _ chk_all i (by omega)
  obtain ⟨z, hz, _⟩ := chk_at _ _ chk_all (i + 1) (by omega)
  rw [mulN_succ, hy, Option.bind_some] at hz
  rw [pw, pw, hy, mulN_succ, hy, Option.bind_some, hz]
  exact hz

/-- The range of bucket i. -/
def rngL (i : Nat) : List UInt8 := expT (pw i) ++ [46, 46, 46] ++ expT (pw (i + 1))

theorem pw_zero : pw 0 = 4472406533629990549 := rfl

theorem efg_len (dl : List UInt8) (nz : Nat) (dp : Int) : (efg dl nz dp).length ≤ 20 := by
  have h1 : (mid dl nz).length ≤ 4 := by
    unfold mid
    simp only [List.length_drop, List.length_take]
    omega
  have h2 : ∀ n, (two n).length = 2 := fun n => by unfold two; split <;> rfl
  have h3 : ∀ e, (expo e).length = 3 := fun e => by unfold expo; split <;> simp [h2]
  unfold efg
  simp only [List.length_append, List.length_replicate, h3, List.length_cons, List.length_nil]
  omega

theorem expT_len (x : Nat) : (expT x).length ≤ 20 := by unfold expT; exact efg_len _ _ _

theorem run_str_add (x y : List UInt8) (h : x.length + y.length ≤ 1000000) (w : World) :
    (binOp .add 9 (.string ⟨x.toArray⟩) (.string ⟨y.toArray⟩)).run Tryz.prog w = .ok (.string ⟨(x ++ y).toArray⟩) w := by
  show (Op.stringOp .add _ _).run _ _ = _
  rw [run_string_add_sum w _ _ (by simp [ByteArray.size]; omega), ByteArray.mk_append_mk]

theorem rngL_len (i : Nat) : (rngL i).length ≤ 50 := by
  have h1 := expT_len (pw i)
  have h2 := expT_len (pw (i + 1))
  unfold rngL
  simp only [List.length_append, List.length_cons, List.length_nil]
  omega

attribute [irreducible] pw expT mulN okX rngL

end Go.Proofs.YthggdkpikjekmaaGreatRDoor
