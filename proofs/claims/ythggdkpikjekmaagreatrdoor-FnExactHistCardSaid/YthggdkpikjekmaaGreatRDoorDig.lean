/- strconv: the digits of a number in a buffer, without the zeros at their end. -/
import Derived.Test.YthggdkpikjekmaaGreatRDoorUsc
import Derived.Test.YthggdkpikjekmaaGreatRDoorHist
import Derived.Lib.ItoaLen
import Derived.Lib.ItoaMem
namespace Go.Proofs.YthggdkpikjekmaaGreatRDoor
open Go.RowKit Go.Lib Go.Sort
set_option maxRecDepth 100000
set_option linter.unusedVariables false

/-- How many digits are left when the zeros at the end are struck. -/
def trimN (dl : List UInt8) : Nat → Nat
  | 0 => 0
  | n + 1 => if dl.getD n 0 = 48 then trimN dl n else n + 1

theorem trimN_le (dl : List UInt8) (n : Nat) : trimN dl n ≤ n := by
  induction n with
  | zero => exact Nat.le_refl _
  | succ n ih => unfold trimN; split <;> omega

def byteV (x : UInt8) : Value := .int .u8 (x.toNat : Int)

/-- The bytes at the head of a block. -/
def BytesAt (w : World) (g : Nat) (l : List UInt8) : Prop := ∀ j, j < l.length → w.cell? ⟨g, j, none⟩ = some (byteV (l.getD j 0))

def SetPost (w : World) (B u : Nat) (p : Int) (e : Ending) (w' : World) : Prop :=
  e = .returned (.tuple #[.int .i64 (((decDigits u).length : Int) + p), .int .i64 (trimN (decDigits u) (decDigits u).length)]) ∧ Keeps (· = B) w w' ∧ BytesAt w' B (decDigits u)

theorem put_keeps {w : World} {B n : Nat} {dk : Array UInt8} : Keeps (· = B) w ((putRow (fun b : UInt8 => Value.int .u8 (b.toNat : Int)) w B 0 dk).drewN n) :=
  ⟨rfl, rfl, rfl, by simp, fun k hk hn => by
    show (putRow _ w B 0 dk).heap[k]? = _
    unfold putRow mapBlock
    simp only [Array.getElem?_modify]
    rw [if_neg (fun e => hn e.symm)]⟩

set_option maxHeartbeats 800000 in
theorem setDigits_any (B u : Nat) (p : Int) (w : World) (hu1 : 1 ≤ u) (hu : u < 18446744073709551616) (hp1 : -1000 ≤ p) (hp2 : p ≤ 1000)
    (hH : ∀ j, j < 24 → w.cell? ⟨B, j, none⟩ = some (.int .u8 0) ∧ w.frozen? ⟨B, j, none⟩ = false) :
    Calls Tryz.prog 104 #[.slice (some ⟨B, 0, none⟩) 24 24, .int .u64 u, .int .i64 p, .int .i64 (nDigits u)] w (SetPost w B u p) := by
  have h20 := nDigits_le20 u hu
  have hpos := nDigits_pos u
  have hlen := decDigits_length u
  have hHold : Holds (fun b : UInt8 => Value.int .u8 (b.toNat : Int)) w B 0 (Array.replicate (nDigits u) 0) := fun j hj => by
    have hj' : j < nDigits u := by simpa using hj
    rw [Nat.zero_add]
    have e : (Array.replicate (nDigits u) (0 : UInt8))[j]! = 0 := by rw [getElem!_pos _ j hj, Array.getElem_replicate]
    rw [e]
    exact hH j (by omega)
  have F := Tryz.internal_strconv_formatBase10 B 0 24 u (Array.replicate (nDigits u) 0) w hHold (by rw [Array.size_replicate]; exact lt_pow_nDigits u) hu (by rw [Array.size_replicate]; omega)
  rw [Array.size_replicate] at F
  have F' := Lib.hid F
  clear F
  obtain ⟨nd, hnd⟩ : ∃ nd, nd = nDigits u := ⟨_, rfl⟩
  have HND := Lib.hid hnd
  rw [← hnd] at F' h20 hpos hlen ⊢
  clear hnd
  go_enter Tryz.func104, Tryz.ntmps104
  go_wp2_with fail
  refine F'.out.mono ?_
  rintro e w' ⟨rfl, n, v', dk, rfl, hinv⟩
  have hK : Keeps (· = B) w ((putRow (fun b : UInt8 => Value.int .u8 (b.toNat : Int)) w B 0 dk).drewN n) := put_keeps
  have hBt : BytesAt ((putRow (fun b : UInt8 => Value.int .u8 (b.toNat : Int)) w B 0 dk).drewN n) B (decDigits u) := fun j hj => by
    have hsz : dk.size = nd := hinv.size
    have hjn : j < nd := by omega
    have h1 := row_is_numeral (by rw [← HND.out]; exact hinv) j hj
    have h2 := cell?_putRow (fun b : UInt8 => Value.int .u8 (b.toNat : Int)) w B 0 (Array.replicate (nDigits u) 0) dk hHold (by rw [Array.size_replicate, ← HND.out]; exact hsz) j (by omega)
    rw [Nat.zero_add] at h2
    rw [List.getD_eq_getElem?_getD, List.getElem?_eq_getElem hj]
    show (putRow _ w B 0 dk).cell? _ = some (byteV ((decDigits u)[j]))
    rw [h2, h1]
    rfl
  generalize (putRow (fun b : UInt8 => Value.int .u8 (b.toNat : Int)) w B 0 dk).drewN n = W at hK hBt
  clear hHold hinv F' hH
  generalize hdl : decDigits u = dl at hBt hlen
  have HDL := Lib.hid hdl
  have HLEN := Lib.hid hlen
  clear hdl hlen
  go_wp2_with fail
  go_loop [3] (fun x => ∃ t : Nat, t ≤ nd ∧ x = .int .i64 t ∧ Hid (trimN dl t = trimN dl nd)) (fun x => (RowKit.intOf x).toNat)
  case atStart => exact ⟨nd, Nat.le_refl _, rfl, rfl⟩
  case round =>
    obtain ⟨t, ht, rfl, htr⟩ := hrel
    rcases t with _ | t
    · go_wp2_with fail
      go_ret2
      have e1 := HLEN.out
      have e2 := HDL.out
      have e3 : trimN dl nd = 0 := htr.out.symm
      exact ⟨by rw [e2, e1, e3]; rfl, hK, by rw [e2]; exact hBt⟩
    · have hcell := hBt t (by have := HLEN.out; omega)
      by_cases hz : dl.getD t 0 = 48
      · have hzb : (((dl.getD t 0).toNat : Int) == 48) = true := by rw [hz]; rfl
        have HT : Hid (trimN dl t = trimN dl nd) := by
          have := htr.out
          rw [trimN, if_pos hz] at this
          exact this
        unfold byteV at hcell
        generalize dl.getD t 0 = z at hcell hzb
        go_wp2_with fail
        go_round
        case rel => exact ⟨t, by omega, by go_num, HT⟩
        case measure => simp [RowKit.intOf]
      · have hzb : (((dl.getD t 0).toNat : Int) == 48) = false := by
          rw [beq_eq_false_iff_ne]
          intro e
          apply hz
          apply UInt8.toNat_inj.1
          show (dl.getD t 0).toNat = 48
          omega
        have HT : Hid (trimN dl nd = t + 1) := by
          have := htr.out
          rw [trimN, if_neg hz] at this
          exact this.symm
        unfold byteV at hcell
        generalize dl.getD t 0 = z at hcell hzb
        go_wp2_with fail
        go_ret2
        have e1 := HLEN.out
        have e2 := HDL.out
        have e3 := HT.out
        exact ⟨by rw [e2, e1, e3]; rfl, hK, by rw [e2]; exact hBt⟩
end Go.Proofs.YthggdkpikjekmaaGreatRDoor
