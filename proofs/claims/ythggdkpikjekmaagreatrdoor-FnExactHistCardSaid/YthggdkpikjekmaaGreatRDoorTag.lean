/- addTag; the line of a bucket. -/
import Derived.Test.YthggdkpikjekmaaGreatRDoorNmt
import Derived.Test.YthggdkpikjekmaaGreatRDoorVis
namespace Go.Proofs.YthggdkpikjekmaaGreatRDoor
open Go.RowKit Go.Lib
set_option maxRecDepth 100000
set_option linter.unusedVariables false

/-- The labels of a line, the opening brace left out: what the name bears, then the tag. -/
def labL (tagged : Bool) (t : List UInt8) : List UInt8 := (if tagged then [116, 61, 34, 120, 34, 44] else []) ++ t ++ [125]
def fullL (tagged : Bool) (a b : UInt8) : List UInt8 := [109, a, b] ++ (if tagged then tagL else [])

theorem addTag_plain (a b : UInt8) (hb : b.toNat ≤ 122) (t : List UInt8) (ht : t.length ≤ 1000) (w : World) :
    Calls Tryz.prog 164 #[.string ⟨#[109, a, b]⟩, .string ⟨t.toArray⟩] w fun e w' => e = .returned (.string ⟨([109, a, b] ++ 123 :: labL false t).toArray⟩) ∧ w = w' := by
  have hr : Hid ((109 :: a :: b :: 123 :: labL false t) = [109, a, b] ++ [123] ++ t ++ [125]) := Lib.hid (by simp [labL])
  have hb' : (b.toNat : Int) ≤ 122 := by omega
  have e9 : (⟨#[109, a, b]⟩ : ByteArray)[2]'(by show 2 < 3; omega) = b := rfl
  have hne : ((b.toNat : Int) != 125) = true := by simp; omega
  go_enter Tryz.func164, Tryz.ntmps164
  go_wp2_with fail
  go_ret
  exact ⟨by rw [hr.out, ← ByteArray.mk_append_mk, ← ByteArray.mk_append_mk, ← ByteArray.mk_append_mk]; rfl, rfl⟩

theorem addTag_tag (a b : UInt8) (t : List UInt8) (ht : t.length ≤ 1000) (w : World) :
    Calls Tryz.prog 164 #[.string ⟨#[109, a, b, 123, 116, 61, 34, 120, 34, 125]⟩, .string ⟨t.toArray⟩] w fun e w' => e = .returned (.string ⟨([109, a, b] ++ 123 :: labL true t).toArray⟩) ∧ w = w' := by
  have hr : Hid ((109 :: a :: b :: 123 :: labL true t) = [109, a, b, 123, 116, 61, 34, 120, 34] ++ [44] ++ t ++ [125]) := Lib.hid (by simp [labL])
  have x1 : (⟨#[109, a, b, 123, 116, 61, 34, 120, 34, 125]⟩ : ByteArray).extract 0 9 = ⟨#[109, a, b, 123, 116, 61, 34, 120, 34]⟩ := rfl
  go_enter Tryz.func164, Tryz.ntmps164
  go_wp2_with fail
  go_ret
  exact ⟨by rw [hr.out, ← ByteArray.mk_append_mk, ← ByteArray.mk_append_mk, ← ByteArray.mk_append_mk]; rfl, rfl⟩

theorem addTag_any (tagged : Bool) (a b : UInt8) (hb : b.toNat ≤ 122) (t : List UInt8) (ht : t.length ≤ 1000) (w : World) :
    Calls Tryz.prog 164 #[.string ⟨(fullL tagged a b).toArray⟩, .string ⟨t.toArray⟩] w fun e w' => e = .returned (.string ⟨([109, a, b] ++ 123 :: labL tagged t).toArray⟩) ∧ w = w' := by
  cases tagged
  · exact addTag_plain a b hb t ht w
  · exact addTag_tag a b t ht w

/-- A bucket's line. -/
def tagOf (r : List UInt8) : List UInt8 := [118, 109, 114, 97, 110, 103, 101, 61, 34] ++ r ++ [34]
def lineL (tagged : Bool) (a b : UInt8) (r : List UInt8) (n : Nat) : List UInt8 :=
  [109, a, b] ++ [95, 98, 117, 99, 107, 101, 116] ++ 123 :: labL tagged (tagOf r) ++ [32] ++ Lib.decDigits n ++ [10]
def linesL (tagged : Bool) (a b : UInt8) (l : Vis) : List UInt8 := l.flatMap fun x => lineL tagged a b x.1 x.2

end Go.Proofs.YthggdkpikjekmaaGreatRDoor
