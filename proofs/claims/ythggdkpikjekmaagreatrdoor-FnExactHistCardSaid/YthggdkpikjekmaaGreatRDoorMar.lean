/- Histogram.marshalTo and its closure. -/
import Derived.Test.YthggdkpikjekmaaGreatRDoorTag
import Derived.Test.YthggdkpikjekmaaGreatRDoorWp
import Derived.Test.YthggdkpikjekmaaGreatRDoorTal
import Derived.StillTailTactics
namespace Go.Proofs.YthggdkpikjekmaaGreatRDoor
open Go.RowKit Go.Lib WholeFloats
set_option maxRecDepth 100000
set_option linter.unusedVariables false

theorem decl_len (n : Nat) (hn : n < 100) : (Lib.decDigits n).length ≤ 2 ∧ 0 < (Lib.decDigits n).length := by
  rw [Lib.decDigits_length]
  by_cases h : n < 10
  · rw [Lib.nDigits_small h]; omega
  · rw [Lib.nDigits_big h, Lib.nDigits_small (by omega)]; omega

theorem labL_len (tagged : Bool) (t : List UInt8) : (labL tagged t).length ≤ t.length + 7 := by
  unfold labL
  cases tagged <;> simp

theorem lineL_len (tagged : Bool) (a b : UInt8) (r : List UInt8) (n : Nat) (hr : r.length ≤ 50) (hn : n < 100) : (lineL tagged a b r n).length ≤ 100 ∧ 0 < (lineL tagged a b r n).length := by
  have h1 := labL_len tagged (tagOf r)
  have h2 := decl_len n hn
  have h3 : (tagOf r).length = r.length + 10 := by unfold tagOf; simp
  unfold lineL
  simp only [List.length_append, List.length_cons, List.length_nil]
  omega

theorem linesL_snoc (tagged : Bool) (a b : UInt8) (l : Vis) (r : List UInt8) (n : Nat) : linesL tagged a b (l ++ [(r, n)]) = linesL tagged a b l ++ lineL tagged a b r n := by
  simp [linesL]

/-- What the closure keeps. -/
structure MI (W0 : World) (bb p4 p5 p6 : Nat) (R : Nat → Prop) (tagged : Bool) (a b : UInt8) (l : Vis) (w : World) : Prop where
  keeps : Keeps (fun k => k = bb ∨ k = p6 ∨ R k) W0 w
  wr : Wr w bb R (linesL tagged a b l)
  ct : w.cell? ⟨p6, 0, none⟩ = some (.int .u64 (tot l : Nat))
  fr : w.frozen? ⟨p6, 0, none⟩ = false
  len : (linesL tagged a b l).length ≤ 100 * l.length
  tl : tot l ≤ 99 * l.length
  nil : l = [] → w.cell? ⟨bb, 0, none⟩ = some (.slice none 0 0)

structure MFix (W0 : World) (bb p4 p5 p6 : Nat) (R : Nat → Prop) (tagged : Bool) (a b : UInt8) : Prop where
  c4 : W0.cell? ⟨p4, 0, none⟩ = some (.string ⟨(fullL tagged a b).toArray⟩)
  c5 : W0.cell? ⟨p5, 0, none⟩ = some (.iface 71 (.pointer (some ⟨bb, 0, none⟩)))
  l4 : p4 < W0.heap.size
  l5 : p5 < W0.heap.size
  l6 : p6 < W0.heap.size
  lb : bb < W0.heap.size
  n4 : ¬ (p4 = bb ∨ p4 = p6 ∨ R p4)
  n5 : ¬ (p5 = bb ∨ p5 = p6 ∨ R p5)
  n6 : ¬ (p6 = bb ∨ R p6)
  nb : ¬ R bb
  up : ∀ k, W0.heap.size ≤ k → R k

theorem MI.still {W0 w w' : World} {bb p4 p5 p6 : Nat} {R : Nat → Prop} {tagged : Bool} {a b : UInt8} {l : Vis} (hF : MFix W0 bb p4 p5 p6 R tagged a b) (h : MI W0 bb p4 p5 p6 R tagged a b l w) (hb : Below w.heap.size w w') : MI W0 bb p4 p5 p6 R tagged a b l w' := by
  have h6 := Nat.lt_of_lt_of_le hF.l6 h.keeps.size
  exact ⟨h.keeps.trans (Keeps.of_below hb) (fun _ _ h => h) (fun _ _ h => h), h.wr.below hb, (hb.cell (p := ⟨p6, 0, none⟩) h6).trans h.ct, (hb.frozen (p := ⟨p6, 0, none⟩) h6).trans h.fr, h.len, h.tl, fun e => (hb.cell (p := ⟨bb, 0, none⟩) (Nat.lt_of_lt_of_le hF.lb h.keeps.size)).trans (h.nil e)⟩

set_option maxHeartbeats 800000 in
theorem clo_any (W0 : World) (bb p4 p5 p6 : Nat) (R : Nat → Prop) (tagged : Bool) (a b : UInt8) (ha : 97 ≤ a.toNat ∧ a.toNat ≤ 122) (hb : 97 ≤ b.toNat ∧ b.toNat ≤ 122) (hF : MFix W0 bb p4 p5 p6 R tagged a b)
    (l : Vis) (r : List UInt8) (n : Nat) (w : World) (h : MI W0 bb p4 p5 p6 R tagged a b l w) (hl : l.length ≤ 600) (hr : r.length ≤ 50) (hn : n ≤ 99) :
    Calls Tryz.prog 163 #[.string ⟨r.toArray⟩, .int .u64 (n : Int), .pointer (some ⟨p4, 0, none⟩), .pointer (some ⟨p5, 0, none⟩), .pointer (some ⟨p6, 0, none⟩)] w
      fun e w' => e = .returned (.tuple #[]) ∧ MI W0 bb p4 p5 p6 R tagged a b (l ++ [(r, n)]) w' := by
  have hc4 := (h.keeps.cell (p := ⟨p4, 0, none⟩) hF.l4 hF.n4).trans hF.c4
  have hc5 := (h.keeps.cell (p := ⟨p5, 0, none⟩) hF.l5 hF.n5).trans hF.c5
  have hc6 := h.ct
  have hll := lineL_len tagged a b r n hr (by omega)
  have hlen := h.len
  have htl := h.tl
  have H := Lib.hid h
  have HF := Lib.hid hF
  have HA := Lib.hid (fun w => addTag_any tagged a b hb.2 (tagOf r) (by unfold tagOf; simp; omega) w)
  have hlab := labL_len tagged (tagOf r)
  have htg : (tagOf r).length = r.length + 10 := by unfold tagOf; simp
  have HSp := Lib.hid (fun w => split_any ha hb (labL tagged (tagOf r)) (by omega) w)
  have HU := Lib.hid (fu_any n (by omega))
  have hdl := decl_len n (by omega)
  have ht0 : Hid ((⟨(tagOf r).toArray⟩ : ByteArray) = ⟨#[118, 109, 114, 97, 110, 103, 101, 61, 34]⟩ ++ ⟨r.toArray⟩ ++ ⟨#[34]⟩) := Lib.hid (by unfold tagOf; rw [← ByteArray.mk_append_mk, ← ByteArray.mk_append_mk])
  obtain ⟨lb, hlb⟩ : ∃ lb, lb = labL tagged (tagOf r) := ⟨_, rfl⟩
  have hl0 : Hid ((⟨(lineL tagged a b r n).toArray⟩ : ByteArray) = ⟨#[109, a, b]⟩ ++ ⟨#[95, 98, 117, 99, 107, 101, 116]⟩ ++ ⟨(123 :: lb).toArray⟩ ++ ⟨#[32]⟩ ++ ⟨(Lib.decDigits n).toArray⟩ ++ ⟨#[10]⟩) := Lib.hid (by
    unfold lineL
    rw [← hlb, ← ByteArray.mk_append_mk, ← ByteArray.mk_append_mk, ← ByteArray.mk_append_mk, ← ByteArray.mk_append_mk, ← ByteArray.mk_append_mk])
  rw [← hlb] at HA HSp hlab
  have HA2 : Hid (∀ w, Calls Tryz.prog 164 #[.string ⟨(fullL tagged a b).toArray⟩, .string (⟨#[118, 109, 114, 97, 110, 103, 101, 61, 34]⟩ ++ ⟨r.toArray⟩ ++ ⟨#[34]⟩)] w fun e w' => e = .returned (.string ⟨([109, a, b] ++ 123 :: lb).toArray⟩) ∧ w = w') := Lib.hid (by rw [← ht0.out]; exact HA.out)
  have HWS : Hid (∀ v, Below w.heap.size w v → Calls Tryz.prog 62 #[.iface 71 (.pointer (some ⟨bb, 0, none⟩)), .string (⟨#[109, a, b]⟩ ++ ⟨#[95, 98, 117, 99, 107, 101, 116]⟩ ++ ⟨(123 :: lb).toArray⟩ ++ ⟨#[32]⟩ ++ ⟨(Lib.decDigits n).toArray⟩ ++ ⟨#[10]⟩)] v fun e w' => e = .returned (.tuple #[.int .i64 ((lineL tagged a b r n).length : Int), .nilIface]) ∧ WrPost v bb R (linesL tagged a b l ++ lineL tagged a b r n) w') := Lib.hid fun v hv => by
    rw [← hl0.out]
    exact ws_any bb R (linesL tagged a b l) (lineL tagged a b r n) v (h.wr.below hv) (fun k hk => hF.up k (by have := h.keeps.size; have := hv.size; omega)) hF.nb hll.2 (by omega)
  clear hlb h hF HA
  have hSs : (⟨(123 :: lb).toArray⟩ : ByteArray).size ≤ 100 := by simp [ByteArray.size]; omega
  have hDs : (⟨(Lib.decDigits n).toArray⟩ : ByteArray).size ≤ 2 := by simp [ByteArray.size]; omega
  clear hl0 ht0
  generalize (⟨(123 :: lb).toArray⟩ : ByteArray) = S at HSp HWS hSs
  generalize (⟨(Lib.decDigits n).toArray⟩ : ByteArray) = D at HU HWS hDs
  generalize (⟨(fullL tagged a b).toArray⟩ : ByteArray) = FN at HA2 hc4
  generalize (⟨([109, a, b] ++ 123 :: lb).toArray⟩ : ByteArray) = TN at HA2 HSp
  obtain ⟨LN, hLN0⟩ : ∃ LN, LN = lineL tagged a b r n := ⟨_, rfl⟩
  have hLN : Hid (lineL tagged a b r n = LN) := Lib.hid hLN0.symm
  rw [← hLN0] at HWS hll
  clear hLN0
  clear hdl
  go_enter Tryz.func163, Tryz.ntmps163
  go_wp2_with (first
    | (go_at_call 164; refine (HA2.out _).mono ?_; rintro e w' ⟨rfl, rfl⟩)
    | (go_at_call 165; refine (HSp.out _).mono ?_; rintro e w' ⟨rfl, nd, rfl⟩))
  have hv0 : Below w.heap.size w (w.drewN nd) := below_drewN (Below.refl _ _) nd
  have hv5 : (w.drewN nd).cell? ⟨p5, 0, none⟩ = some (.iface 71 (.pointer (some ⟨bb, 0, none⟩))) := hc5
  have HW3 := Lib.hid (HWS.out (w.drewN nd).drew hv0.drew)
  generalize w.drewN nd = v0 at hv5 HW3 hv0 ⊢
  have hd5 : ({ heap := v0.heap, tape := v0.tape, drawn := v0.drawn + 1, os := v0.os, output := v0.output } : World).cell? ⟨p5, 0, none⟩ = some (.iface 71 (.pointer (some ⟨bb, 0, none⟩))) := hv5
  have hn2 : ¬ 9223372036854775807 < 10 + S.size := by omega
  have hn3 : ¬ 9223372036854775807 < 10 + S.size + 1 := by omega
  have hn4 : ¬ 9223372036854775807 < 10 + S.size + 1 + D.size := by omega
  have hn5 : ¬ 9223372036854775807 < 10 + S.size + 1 + D.size + 1 := by omega
  go_still_tail 10, (by kernel_rfl)
  still_call ((HU.out _).mono fun _ _ h => ⟨h.1, h.2.symm⟩)
  repeat still_step
  refine wpStill_nil ?_
  change wpList _ _ _ _ _ v0.drew
  have hv3 : Below w.heap.size w v0.drew := hv0.drew
  generalize v0.drew = w3 at HW3 hv3 ⊢
  have hl6 : p6 < w.heap.size := Nat.lt_of_lt_of_le HF.out.l6 H.out.keeps.size
  have hl6' : p6 < w3.heap.size := Nat.lt_of_lt_of_le hl6 hv3.size
  have hn6 := Lib.hid HF.out.n6
  have hc3 := Lib.hid ((hv3.cell (p := ⟨p6, 0, none⟩) hl6).trans hc6)
  have hf3 := Lib.hid ((hv3.frozen (p := ⟨p6, 0, none⟩) hl6).trans H.out.fr)
  have HK3 := Lib.hid (H.out.keeps.trans (Keeps.of_below (S := fun k => k = bb ∨ k = p6 ∨ R k) hv3) (fun _ _ h => h) (fun _ _ h => h))
  have HM : Hid (∀ w2, WrPost w3 bb R (linesL tagged a b l ++ LN) w2 → w2.cell? ⟨p6, 0, none⟩ = some (.int .u64 (tot l : Nat)) ∧ w2.frozen? ⟨p6, 0, none⟩ = false ∧ MI W0 bb p4 p5 p6 R tagged a b (l ++ [(r, n)]) (w2.setCell ⟨p6, 0, none⟩ (.int .u64 ((tot l : Int) + (n : Int))))) := Lib.hid fun w2 hx => by
    obtain ⟨hx1, hx2⟩ := hx
    have c2 := (hx2.cell (p := ⟨p6, 0, none⟩) hl6' hn6.out).trans hc3.out
    have f2 := (hx2.frozen (p := ⟨p6, 0, none⟩) hl6' hn6.out).trans hf3.out
    have e1 : linesL tagged a b (l ++ [(r, n)]) = linesL tagged a b l ++ LN := by rw [linesL_snoc, hLN.out]
    have hz := cs_size w2 ⟨p6, 0, none⟩ (.int .u64 ((tot l : Int) + (n : Int)))
    refine ⟨c2, f2, ⟨?_, ?_, ?_, by simpa using f2, ?_, ?_, fun e => by simp at e⟩⟩
    · refine HK3.out.trans (hx2.trans (T := fun k => k = p6) (U := fun k => k = bb ∨ k = p6 ∨ R k) ⟨rfl, rfl, rfl, by rw [hz]; exact Nat.le_refl _, fun k hk hne => cs_heap _ _ _ _ hne⟩ (fun k _ h => by rcases h with h | h; exact .inl h; exact .inr (.inr h)) (fun k _ h => .inr (.inl h))) (fun _ _ h => h) (fun _ _ h => h)
    · rw [e1]
      have hk : Keeps (fun k => k = p6) w2 (w2.setCell ⟨p6, 0, none⟩ (.int .u64 ((tot l : Int) + (n : Int)))) := ⟨rfl, rfl, rfl, by rw [hz]; exact Nat.le_refl _, fun k hk hne => cs_heap _ _ _ _ hne⟩
      exact hx1.keeps hk (fun e => hn6.out (.inl e.symm)) (fun k _ hR e => hn6.out (.inr (e ▸ hR)))
    · rw [cs_eq _ _ _ _ (by rw [c2]; rfl), tot_app, tot_one]
      congr 1
    · rw [e1, List.length_append, List.length_append]
      simp only [List.length_cons, List.length_nil]
      have := hll.1
      omega
    · rw [tot_app, tot_one, List.length_append]
      simp only [List.length_cons, List.length_nil]
      omega
  go_wp2_with (go_at_call 62; refine HW3.out.mono ?_; rintro e w2 ⟨rfl, hx⟩; obtain ⟨y1, y2, y3⟩ := HM.out w2 hx)
  go_end0
  exact ⟨rfl, y3⟩
end Go.Proofs.YthggdkpikjekmaaGreatRDoor
