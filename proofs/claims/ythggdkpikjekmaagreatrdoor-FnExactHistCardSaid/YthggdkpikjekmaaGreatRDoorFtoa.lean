/- strconv.FormatFloat at 'e' and three digits. -/
import Derived.Test.YthggdkpikjekmaaGreatRDoorEfg
import Derived.Test.YthggdkpikjekmaaGreatRDoorFl
import Derived.Test.YthggdkpikjekmaaGreatRDoorTabs
import Derived.StillTailTactics
import Derived.Deep.RegionWith
namespace Go.Proofs.YthggdkpikjekmaaGreatRDoor
open Go.RowKit Go.Lib
set_option maxRecDepth 100000
set_option linter.unusedVariables false

@[go_sem] theorem run_sf64bits (x : Nat) (w : World) : (callFunc 99 #[.float .f64 x]).run Tryz.prog w = .ok (.value (.int .u64 x)) w :=
  (run_callFunc_extern Tryz.func99 (by kernel_rfl) (by kernel_rfl) (by kernel_rfl) (e := Extern.MathFloatBits.float64bits) (by kernel_rfl) _ w).trans rfl

theorem len64_same (mt s : Nat) (h2 : mt < 9007199254740992) (hb : Go.Lib.bitLen mt = s) (w : World) :
    Calls Tryz.prog 64 #[.int .u64 mt] w fun e w' => e = .returned (.int .i64 s) ∧ w = w' := by
  refine (Tryz.bits_Len64 mt w (by omega) (by omega)).mono ?_
  rintro e w' ⟨rfl, rfl⟩
  refine ⟨?_, rfl⟩
  rw [Int.toNat_natCast, hb]

theorem own_below {B : Nat} {e : TypeId} {k : Nat} {v : Value} {n : Nat} {xs : List Value} {w w' : World} (h : w.ownsRow B e k v n xs) (hb : Below w.heap.size w w') : w'.ownsRow B e k v n xs :=
  h.kept (row := none) ⟨hb.os, hb.tape, hb.output, hb.size, fun j hj _ => hb.block j hj⟩ (by cases hv : v.ownBlock <;> simp)

abbrev zero24 : Array Value := #[.int .u8 0, .int .u8 0, .int .u8 0, .int .u8 0, .int .u8 0, .int .u8 0, .int .u8 0, .int .u8 0, .int .u8 0, .int .u8 0, .int .u8 0, .int .u8 0, .int .u8 0, .int .u8 0, .int .u8 0, .int .u8 0, .int .u8 0, .int .u8 0, .int .u8 0, .int .u8 0, .int .u8 0, .int .u8 0, .int .u8 0, .int .u8 0]
theorem zero24_at (j : Nat) (hj : j < 24) : zero24[j]? = some (.int .u8 0) := by
  have e : zero24 = Array.replicate 24 (.int .u8 0) := rfl
  rw [e, Array.getElem?_replicate, if_pos hj]

set_option maxHeartbeats 1600000 in
theorem ftoa_core (base x mt i hi lo k D : Nat) (E p lp u q : Int) (A : Option Addr) (c : Nat) (w : World) (hx : (x : Int) / 4503599627370496 ≤ 2046) (hs : ((x : Int) / 9223372036854775808 != 0) = false)
    (hE : bits BinOp.and IntKind.i64 ((x : Int) / 4503599627370496) 2047 = E) (hE1 : 1 ≤ E) (hE2 : E ≤ 2046)
    (hM : bits BinOp.or IntKind.u64 (bits BinOp.and IntKind.u64 (x : Int) 4503599627370495) 4503599627370496 = (mt : Int)) (hm1 : 1 ≤ mt) (hm2 : mt < 9007199254740992) (hlen : Go.Lib.bitLen mt = 53)
    (hh : hi < 18446744073709551616) (hl : lo < 18446744073709551616) (hk : k < 64)
    (hp : Hid (3 - (E - 1086 + 63) * 78913 / 262144 = p)) (hp1 : -600 ≤ p) (hp2 : p ≤ 600) (hi0 : i < 696) (hpi : p - -348 = (i : Int))
    (hlp : Hid (p * 108853 / 32768 = lp)) (hlp1 : -2000 ≤ lp) (hlp2 : lp ≤ 2000) (hs2 : Hid (-(E - 1086 + lp + 3) = (k : Int))) (hu : Hid (fwU (mt * 2048) hi lo k = u)) (hu0 : 0 ≤ u)
    (hD : Hid (roundU (if 39998 ≤ u then divU u else u) = (D : Int))) (hq : Hid (-(if 39998 ≤ u then p - 1 else p) = q)) (hD1 : 1 ≤ D) (hD2 : D < 100000) (hq1 : -12 ≤ q) (hq2 : q ≤ 45)
    (hnd : 4 ≤ nDigits D) (hnd2 : nDigits D ≤ 5) (hnz : 1 ≤ trimN (decDigits D) (decDigits D).length)
    (hT : Tabs w) (ht : TabAt w i hi lo) (hown : w.ownsRow base 5 1 (.slice A 0 c) 0 []) (hbase : base ≤ w.heap.size) :
    Calls Tryz.prog 83 #[.slice A 0 c, .float .f64 x, .int .u8 101, .int .i64 3] w
      (EfgPost w base (efg (decDigits D) (trimN (decDigits D) (decDigits D).length) (((decDigits D).length : Int) + q))) := by
  have HL := Lib.hid (len64_same mt 53 hm2 hlen)
  have hE0 : (E == 0) = false := by simp; omega
  have hE3 : (E == 2047) = false := by simp; omega
  have hm0 : ((mt : Int) == 0) = false := by simp; omega
  have hopt := hT.opt
  have hlt := hT.size
  have HOwn := Lib.hid hown
  have HT := Lib.hid hT
  have HTab := Lib.hid ht
  have hgl : 4 < w.heap.size := by omega
  clear hlen hown hT ht
  go_enter Tryz.func83, Tryz.ntmps83
  go_wp2_with fail
  go_quiet (fail)
  go_wp2_with fail
  refine (HL.out _).mono ?_
  rintro e w' ⟨rfl, rfl⟩
  go_wp2_with fail
  have ec : ((mt : Int) * 2048) = ((mt * 2048 : Nat) : Int) := by omega
  have ee : E + -1023 - 11 - 52 = E - 1086 := by omega
  rw [ec, ee]
  clear ec ee
  generalize hW : ((w.drewN nq).alloc (.cells zero24 100)) = W
  have HW := Lib.hid hW
  have hWT : Tabs W := by rw [← hW]; exact (HT.out.drewN nq).alloc _
  have hWtab : TabAt W i hi lo := by rw [← hW]; exact TabAt.alloc (w := w.drewN nq) HTab.out _
  have hWz : W.heap.size = w.heap.size + 1 := by rw [← hW]; simp
  have hWb : Below w.heap.size w W := by rw [← hW]; exact (below_drewN (Below.refl _ _) nq).alloc (Nat.le_refl _) _
  have hW4 := hWT.four
  have hWc : ∀ j, j < 24 → W.cell? ⟨w.heap.size, j, none⟩ = some (.int .u8 0) ∧ W.frozen? ⟨w.heap.size, j, none⟩ = false := fun j hj => by
    rw [← hW]
    exact ⟨(World.cell?_alloc_new (w.drewN nq) zero24 100 j).trans (zero24_at j hj), World.frozen?_alloc_new (w.drewN nq) zero24 100 j⟩
  clear hW
  refine (fixedWidth_core (mt * 2048) i hi lo k (E - 1086) p lp u W (by omega) hh hl hk (by omega) (by omega) hp hp1 hp2 hi0 hpi hlp hlp1 hlp2 hs2 hu hu0 hWtab hW4).mono ?_
  rintro en w1 ⟨rfl, hb1⟩
  rw [hD.out, hq.out]
  have hD0 : ((D : Int) != 0) = true := by simp; omega
  go_wp2_with fail
  have hN := fun (v : World) (hv : Tabs v) => Tryz.internal_strconv_numDigits D hD1 (by omega) v hv.pow
  have hw1T : Tabs w1 := hWT.below hb1 (by omega)
  have hw1c : ∀ j, j < 24 → w1.cell? ⟨w.heap.size, j, none⟩ = some (.int .u8 0) ∧ w1.frozen? ⟨w.heap.size, j, none⟩ = false := fun j hj =>
    ⟨(hb1.cell (p := ⟨w.heap.size, j, none⟩) (by show w.heap.size < W.heap.size; omega)).trans (hWc j hj).1, (hb1.frozen (p := ⟨w.heap.size, j, none⟩) (by show w.heap.size < W.heap.size; omega)).trans (hWc j hj).2⟩
  have hS := fun (v : World) (hv : ∀ j, j < 24 → v.cell? ⟨w.heap.size, j, none⟩ = some (.int .u8 0) ∧ v.frozen? ⟨w.heap.size, j, none⟩ = false) => setDigits_any w.heap.size D q v hD1 (by omega) (by omega) (by omega) hv
  have HS := Lib.hid hS
  have HN := Lib.hid hN
  have HC := Lib.hid hw1c
  have HT1 := Lib.hid hw1T
  clear hS hN hw1c hw1T hWc hWT hWtab hW4
  go_region_with (first
    | (go_at_call 46; refine (HN.out _ ?n1).mono ?_; (first | exact HT1.out | exact HT1.out.drew | exact HT1.out.drewN _); rintro e w' ⟨rfl, rfl⟩)
    | (go_at_call 104; refine (HS.out _ ?n2).mono ?_; exact HC.out; rintro e w2 ⟨rfl, hk2, hbt2⟩))
  go_goals
  all_goals go_wp2_with fail
  have hlw : w.heap.size < W.heap.size := by omega
  have hz1 : W.heap.size ≤ w1.heap.size := hb1.size
  have hz2 : w1.heap.size ≤ w2.heap.size := hk2.size
  have hk2b : Below w.heap.size w1.drew w2 := hk2.below_of (by show w.heap.size ≤ w1.heap.size; omega) (fun k hk => Nat.le_of_eq hk.symm)
  have hb2 : Below w.heap.size w w2 := ((hWb.trans (hb1.mono (by omega))).drew).trans hk2b
  have hown2 : w2.ownsRow base 5 1 (.slice A 0 c) 0 [] := own_below HOwn.out hb2
  have hlen := decDigits_length D
  have hbuf : Buf w2 base w.heap.size (.slice A 0 c) [] (decDigits D) := ⟨hown2, fun e => by have := (HOwn.out.lt _ e).2; omega, hbt2, by omega, by omega, ⟨A, c, rfl⟩⟩
  refine (efg_any base w.heap.size (.slice A 0 c) (decDigits D) (trimN (decDigits D) (decDigits D).length) ((decDigits D).length + q) w2 hbuf hnz (trimN_le _ _) (by omega) (by omega) (by omega)).mono ?_
  rintro e w3 ⟨v, rfl, hv, hb3⟩
  go_wp2_with fail
  go_ret
  exact ⟨v, rfl, hv, (hb2.mono hbase).trans hb3⟩
end Go.Proofs.YthggdkpikjekmaaGreatRDoor
