/- Histogram.marshalTo, whole. -/
import Derived.Test.YthggdkpikjekmaaGreatRDoorMar
import Derived.Lib.AppendIntMem
namespace Go.Proofs.YthggdkpikjekmaaGreatRDoor
open Go.RowKit Go.Lib WholeFloats
set_option maxRecDepth 100000
set_option linter.unusedVariables false

def tailL (tagged : Bool) : List UInt8 := if tagged then tagL else []
def sumL (tagged : Bool) (a b : UInt8) (s : Nat) : List UInt8 := [109, a, b] ++ [95, 115, 117, 109] ++ tailL tagged ++ [32] ++ Lib.itoa (s : Int) ++ [10]
def cntL (tagged : Bool) (a b : UInt8) (n : Nat) : List UInt8 := [109, a, b] ++ [95, 99, 111, 117, 110, 116] ++ tailL tagged ++ [32] ++ Lib.decDigits n ++ [10]
/-- What is written of a histogram that was given the values ns. -/
def outL (tagged : Bool) (a b : UInt8) (ns : List Nat) : List UInt8 :=
  if ns = [] then [] else linesL tagged a b (visN ns) ++ sumL tagged a b ns.sum ++ cntL tagged a b ns.length

theorem split_full (tagged : Bool) (a b : UInt8) (ha : 97 ≤ a.toNat ∧ a.toNat ≤ 122) (hb : 97 ≤ b.toNat ∧ b.toNat ≤ 122) (w : World) :
    Calls Tryz.prog 165 #[.string ⟨(fullL tagged a b).toArray⟩] w fun e w' => e = .returned (.tuple #[.string ⟨#[109, a, b]⟩, .string ⟨(tailL tagged).toArray⟩]) ∧ ∃ n, w' = w.drewN n := by
  cases tagged
  · exact (split_low [109, a, b] (low3 ha hb) w).mono fun e w' h => ⟨h.1, 0, h.2.symm⟩
  · exact split_any ha hb [116, 61, 34, 120, 34, 125] (by decide) w

theorem gsum_any (hb sm : Nat) (w : World) (h : w.cell? ⟨hb, 29, none⟩ = some (.float .f64 (wf sm))) :
    Calls Tryz.prog 166 #[.pointer (some ⟨hb, 0, none⟩)] w fun e w' => e = .returned (.float .f64 (wf sm)) ∧ w = w' := by
  go_enter Tryz.func166, Tryz.ntmps166
  go_wp2_with fail
  go_ret
  exact ⟨rfl, rfl⟩

theorem itoa_len (s : Nat) (hs : s < 2 ^ 53) : (Lib.itoa (s : Int)).length ≤ 20 := by
  unfold Lib.itoa
  rw [if_neg (by omega), Int.toNat_natCast, Lib.decDigits_length]
  exact Lib.nDigits_le20 s (by omega)

theorem Wr.mono {w : World} {bb : Nat} {R S : Nat → Prop} {l : List UInt8} (h : Wr w bb R l) (hs : ∀ k, R k → S k) : Wr w bb S l := by
  obtain ⟨h1, h2, v, h3, h4, h5⟩ := h
  exact ⟨h1, h2, v, h3, h4, fun k hk => hs k (h5 k hk)⟩

theorem wf_toInt (n : Nat) (h : n < 2 ^ 53) : floatToIntVal .f64 (wf n) .i64 = some (n : Int) := by
  have h1 := toInt_wf n h
  have h2 : (2 : Nat) ^ 53 = 9007199254740992 := by decide
  unfold floatToIntVal
  have h3 : FloatKind.f64.decode (wf n) = Ieee.double.read (wf n) := rfl
  have e1 : IntKind.i64.min = -9223372036854775808 := rfl
  have e2 : IntKind.i64.max = 9223372036854775807 := rfl
  rw [h3, h1]
  show (if IntKind.i64.min ≤ (n : Int) ∧ (n : Int) ≤ IntKind.i64.max then some (n : Int) else none) = some (n : Int)
  rw [if_pos ⟨by omega, by omega⟩]

theorem visD_none (ct : Nat → Nat) (h : ∀ N, ct N = 0) (d : Nat) : visD 0 ct d = [] := by
  induction d with
  | zero => rw [visD_zero]; rfl
  | succ d ih => rw [visD_succ, ih, visO_none ct d 18 (fun j _ => h _)]; rfl

theorem visN_nil : visN [] = [] := by
  unfold visN
  rw [loF_nil, ctF_nil]
  exact visD_none _ (fun _ => rfl) 27

theorem fi_any (s : Nat) (hs : s < 2 ^ 53) (w : World) (hT : Tabs w) :
    Calls Tryz.prog 30 #[.int .i64 (s : Int), .int .i64 10] w fun e w' => e = .returned (.string ⟨(Lib.itoa (s : Int)).toArray⟩) ∧ Below w.heap.size w w' := by
  have h2 : (2 : Nat) ^ 53 = 9007199254740992 := by decide
  refine (Tryz.strconv_FormatInt_10 (s : Int) (by omega) (by omega) w hT.pow).mono ?_
  rintro e w' ⟨rfl, k, os, rfl⟩
  exact ⟨rfl, below_grow _ _ (Nat.le_refl _) _ _⟩

/-- The state at which VisitNonZeroBuckets begins. -/
theorem mar_start (tagged : Bool) (a b : UInt8) (bb : Nat) (v : World) (hw : Wr v bb (bb < ·) []) (hn : v.cell? ⟨bb, 0, none⟩ = some (.slice none 0 0)) (W0 : World)
    (hW : W0 = ((v.alloc (.cells #[.string ⟨(fullL tagged a b).toArray⟩] 9)).alloc (.cells #[.iface 71 (.pointer (some ⟨bb, 0, none⟩))] 70)).alloc (.cells #[.int .u64 0] 25)) :
    Below v.heap.size v W0 ∧ W0.heap.size = v.heap.size + 3 ∧ MFix W0 bb v.heap.size (v.heap.size + 1) (v.heap.size + 2) (fun k => (bb < k ∧ k < v.heap.size) ∨ v.heap.size + 3 ≤ k) tagged a b ∧
      MI W0 bb v.heap.size (v.heap.size + 1) (v.heap.size + 2) (fun k => (bb < k ∧ k < v.heap.size) ∨ v.heap.size + 3 ≤ k) tagged a b [] W0 := by
  have hbl := hw.lt
  have hz : W0.heap.size = v.heap.size + 3 := by rw [hW]; simp
  have hB : Below v.heap.size v W0 := by
    rw [hW]
    exact (((Below.refl _ _).alloc (Nat.le_refl _) _).alloc (by simp) _).alloc (by simp; omega) _
  have c4 : W0.cell? ⟨v.heap.size, 0, none⟩ = some (.string ⟨(fullL tagged a b).toArray⟩) := by
    rw [hW, World.cell?_alloc_lt _ _ _ (by simp; omega), World.cell?_alloc_lt _ _ _ (by simp)]
    exact (World.cell?_alloc_new _ _ _ _).trans rfl
  have e5 : v.heap.size + 1 = (v.alloc (.cells #[.string ⟨(fullL tagged a b).toArray⟩] 9)).heap.size := by simp
  have c5 : W0.cell? ⟨v.heap.size + 1, 0, none⟩ = some (.iface 71 (.pointer (some ⟨bb, 0, none⟩))) := by
    rw [hW, World.cell?_alloc_lt _ _ _ (by simp)]
    rw [e5]
    exact (World.cell?_alloc_new _ _ _ _).trans rfl
  have e6 : v.heap.size + 2 = ((v.alloc (.cells #[.string ⟨(fullL tagged a b).toArray⟩] 9)).alloc (.cells #[.iface 71 (.pointer (some ⟨bb, 0, none⟩))] 70)).heap.size := by simp
  have c6' : (((v.alloc (.cells #[.string ⟨(fullL tagged a b).toArray⟩] 9)).alloc (.cells #[.iface 71 (.pointer (some ⟨bb, 0, none⟩))] 70)).alloc (.cells #[.int .u64 0] 25)).cell? ⟨v.heap.size + 2, 0, none⟩ = some (.int .u64 0) := by
    rw [e6]
    exact (World.cell?_alloc_new _ _ _ _).trans rfl
  have c6 : W0.cell? ⟨v.heap.size + 2, 0, none⟩ = some (.int .u64 0) := by
    rw [hW]
    exact c6'
  have f6 : W0.frozen? ⟨v.heap.size + 2, 0, none⟩ = false := by
    have h : (((v.alloc (.cells #[.string ⟨(fullL tagged a b).toArray⟩] 9)).alloc (.cells #[.iface 71 (.pointer (some ⟨bb, 0, none⟩))] 70)).alloc (.cells #[.int .u64 0] 25)).frozen? ⟨v.heap.size + 2, 0, none⟩ = false := by rw [e6]; exact World.frozen?_alloc_new _ _ _ _
    rw [hW]
    exact h
  have hwr : Wr W0 bb (fun k => (bb < k ∧ k < v.heap.size) ∨ v.heap.size + 3 ≤ k) [] := by
    obtain ⟨h1, h2, x, h3, h4, h5⟩ := hw.below hB
    have hx : x = .slice none 0 0 := by
      rw [hB.cell (p := ⟨bb, 0, none⟩) hbl, hn] at h3
      injection h3 with h3
      exact h3.symm
    subst hx
    exact ⟨h1, h2, _, h3, h4, fun k hk => by cases hk⟩
  exact ⟨hB, hz, ⟨c4, c5, by omega, by omega, by omega, by omega, by omega, by omega, by omega, by omega, fun k hk => .inr (by omega)⟩,
    ⟨Keeps.refl _ _, hwr, c6, f6, Nat.zero_le _, Nat.zero_le _, fun _ => (hB.cell (p := ⟨bb, 0, none⟩) hbl).trans hn⟩⟩

set_option maxHeartbeats 1600000 in
theorem mar_any (tagged : Bool) (a b : UInt8) (ha : 97 ≤ a.toNat ∧ a.toNat ≤ 122) (hb : 97 ≤ b.toNat ∧ b.toNat ≤ 122) (hq bb : Nat) (pt : Nat → Option Nat) (ns : List Nat) (v : World)
    (hh : HistAt v hq pt (loF 0 ns) (ctF (fun _ => 0) ns) ns.sum) (hown : ∀ k, Own hq pt k → k < bb) (hT : Tabs v) (h8 : 8 ≤ bb) (hl : ns.length ≤ 30) (hgood : ∀ n ∈ ns, Good n) (hsm : ns.sum < 2 ^ 53)
    (hw : Wr v bb (bb < ·) []) (hn : v.cell? ⟨bb, 0, none⟩ = some (.slice none 0 0)) :
    Calls Tryz.prog 161 #[.pointer (some ⟨hq, 0, none⟩), .string ⟨(fullL tagged a b).toArray⟩, .iface 71 (.pointer (some ⟨bb, 0, none⟩))] v fun e w' => e = .returned (.tuple #[]) ∧ MarPost v bb (outL tagged a b ns) w' := by
  have hmf : ∀ (fn : Fn) (first cap : Array Value) (w : World), (Instr.makeFunc fn first cap).run Tryz.prog w = .ok (.func fn first cap) w := fun _ _ _ _ => rfl
  have hbl := hw.lt
  have hql : hq < bb := hown hq (.inl rfl)
  have HSt := Lib.hid fun W0 hW => mar_start tagged a b bb v hw hn W0 hW
  have HH := Lib.hid hh
  have HOwn := Lib.hid hown
  have HT := Lib.hid hT
  have HG := Lib.hid (tally ns hgood)
  have HS := Lib.hid hsm
  clear hh hown hT hgood hsm hw
  go_enter Tryz.func161, Tryz.ntmps161
  go_wp2_with fail
  obtain ⟨W0, hW0⟩ : ∃ W0, W0 = ((v.alloc (.cells #[.string ⟨(fullL tagged a b).toArray⟩] 9)).alloc (.cells #[.iface 71 (.pointer (some ⟨bb, 0, none⟩))] 70)).alloc (.cells #[.int .u64 0] 25) := ⟨_, rfl⟩
  rw [← hW0]
  obtain ⟨hB0, hz0, hF, hM0⟩ := HSt.out W0 hW0
  clear hW0
  have hV : Visitor 163 #[.pointer (some ⟨v.heap.size, 0, none⟩), .pointer (some ⟨v.heap.size + 1, 0, none⟩), .pointer (some ⟨v.heap.size + 2, 0, none⟩)] hq pt (loF 0 ns) (ctF (fun _ => 0) ns) ns.sum
      (MI W0 bb v.heap.size (v.heap.size + 1) (v.heap.size + 2) (fun k => (bb < k ∧ k < v.heap.size) ∨ v.heap.size + 3 ≤ k) tagged a b) :=
    ⟨enters_of Tryz.func163 (by kernel_rfl) rfl,
      fun l w' s n h hl1 hl2 _ hn => clo_any W0 bb _ _ _ _ tagged a b ha hb hF l s n w' h hl1 hl2 hn,
      fun l w' w'' h hb => h.still hF hb,
      fun l w' h => (HH.out.keep (fun k hk => hB0.block k (by have := HOwn.out k hk; omega)) hB0.size).keep (fun k hk => h.keeps.block k (by have := HOwn.out k hk; omega) (fun e => by have := HOwn.out k hk; omega)) h.keeps.size,
      fun l w' h => (HT.out.below hB0 (by omega)).keeps h.keeps (fun k hk => by omega)⟩
  have hlo := loF_le 0 ns
  have hct := ctF_le (fun _ => 0) ns
  have HVis := Lib.hid (visit_any _ _ _ _ _ _ _ _ hV (by omega) (fun N => by have := hct N; omega) W0 hM0)
  have HHV := Lib.hid fun l w' h => hV.hist l w' h
  have HTV := Lib.hid fun l w' h => hV.tabs l w' h
  have HF := Lib.hid hF
  have HB0 := Lib.hid hB0
  clear hV hM0 hlo hct hF hB0 HSt
  refine HVis.out.mono ?_
  rintro e w1 ⟨rfl, hm⟩
  have hc6 := hm.ct
  have HM := Lib.hid hm
  have HM2 : Hid (MI W0 bb v.heap.size (v.heap.size + 1) (v.heap.size + 2) (fun k => (bb < k ∧ k < v.heap.size) ∨ v.heap.size + 3 ≤ k) tagged a b (visN ns) w1) := HM
  have htot : Hid (tot (visD (loF 0 ns) (ctF (fun _ => 0) ns) 27) = ns.length) := HG
  rw [htot.out] at hc6
  clear hm
  by_cases h0 : ns = []
  · subst h0
    have hc7 : w1.cell? ⟨v.heap.size + 1 + 1, 0, none⟩ = some (.int .u64 0) := hc6
    have HP : Hid (MarPost v bb (outL tagged a b []) w1) := Lib.hid (by
      unfold outL
      rw [if_pos rfl]
      have hw := HM2.out.wr
      have hnil := HM2.out.nil visN_nil
      rw [visN_nil] at hw
      exact ⟨hw.mono fun k hk => by omega, (Keeps.of_below HB0.out).trans HM2.out.keeps (fun k _ h => h) (fun k hk h => by omega), fun _ => hnil⟩)
    go_wp2_with fail
    refine bodyPost_ret (results_none rfl _ _ _) rfl ?_
    exact ⟨rfl, HP.out⟩
  · have hlen : 0 < ns.length := List.length_pos_iff.2 h0
    have hc7 : w1.cell? ⟨v.heap.size + 1 + 1, 0, none⟩ = some (.int .u64 (ns.length : Nat)) := hc6
    have hK := HM.out.keeps
    have hc4 := (hK.cell (p := ⟨v.heap.size, 0, none⟩) HF.out.l4 HF.out.n4).trans HF.out.c4
    have hc5 := (hK.cell (p := ⟨v.heap.size + 1, 0, none⟩) HF.out.l5 HF.out.n5).trans HF.out.c5
    have hsum := (HHV.out _ _ HM.out).sum
    have hsm := HS.out
    have hne : ((ns.length : Int) == 0) = false := by simp; omega
    clear hK
    have HSp := Lib.hid (split_full tagged a b ha hb)
    have hcv := fun w => run_convert_float_int (P := Tryz.prog) w 36 2 .f64 .i64 (wf ns.sum) (ns.sum : Int) (by rw [Tryz.underlying36]; rfl) Tryz.underlying2 (wf_toInt ns.sum HS.out)
    have hord : (FloatKind.f64.format.order (wf ns.sum) (wf ns.sum) == some .eq) = true := by
      have h := order_wf ns.sum ns.sum HS.out HS.out
      have h3 : FloatKind.f64.format.order (wf ns.sum) (wf ns.sum) = some (compare ns.sum ns.sum) := h
      rw [h3]
      simp
    have hfo : floatOfInt .f64 (ns.sum : Int) = wf ns.sum := rfl
    go_wp2_with (first
      | (go_at_call 165; refine (HSp.out _).mono ?_; rintro e w' ⟨rfl, nd, rfl⟩)
      | (go_at_call 166; refine (gsum_any hq ns.sum _ (by first | exact hsum | (simp; exact hsum))).mono ?_; rintro e w' ⟨rfl, rfl⟩))
    have hB1 : Below w1.heap.size w1 (w1.drewN nd) := below_drewN (Below.refl _ _) nd
    have hM7 := Lib.hid (HM2.out.still HF.out hB1)
    have hT7 := Lib.hid (HTV.out _ _ hM7.out)
    have hc57 : (w1.drewN nd).cell? ⟨v.heap.size + 1, 0, none⟩ = some (.iface 71 (.pointer (some ⟨bb, 0, none⟩))) := hc5
    have HFI := Lib.hid fun w hT => fi_any ns.sum HS.out w hT
    have hTs : (⟨(tailL tagged).toArray⟩ : ByteArray).size ≤ 7 := by cases tagged <;> decide
    have hIs : (⟨(Lib.itoa (ns.sum : Int)).toArray⟩ : ByteArray).size ≤ 20 := by
      have := itoa_len ns.sum HS.out
      simp [ByteArray.size]
      exact this
    have hSL : (sumL tagged a b ns.sum).length ≤ 100 ∧ 0 < (sumL tagged a b ns.sum).length := by
      have h1 := itoa_len ns.sum HS.out
      have h2 : (tailL tagged).length ≤ 7 := by cases tagged <;> decide
      unfold sumL
      simp only [List.length_append, List.length_cons, List.length_nil]
      omega
    have hLl : (linesL tagged a b (visN ns)).length ≤ 48700 := by
      have h1 := hM7.out.len
      have h2 : (visN ns).length ≤ 487 := by unfold visN; exact visD_len _ _ 27
      omega
    have HWS : Hid (∀ u, Below w1.heap.size w1 u → Calls Tryz.prog 62 #[.iface 71 (.pointer (some ⟨bb, 0, none⟩)), .string (⟨#[109, a, b]⟩ ++ ⟨#[95, 115, 117, 109]⟩ ++ ⟨(tailL tagged).toArray⟩ ++ ⟨#[32]⟩ ++ ⟨(Lib.itoa (ns.sum : Int)).toArray⟩ ++ ⟨#[10]⟩)] u fun e w' => e = .returned (.tuple #[.int .i64 ((sumL tagged a b ns.sum).length : Int), .nilIface]) ∧ WrPost u bb (fun k => (bb < k ∧ k < v.heap.size) ∨ v.heap.size + 3 ≤ k) (linesL tagged a b (visN ns) ++ sumL tagged a b ns.sum) w') := Lib.hid fun u hu => by
      have e : (⟨(sumL tagged a b ns.sum).toArray⟩ : ByteArray) = ⟨#[109, a, b]⟩ ++ ⟨#[95, 115, 117, 109]⟩ ++ ⟨(tailL tagged).toArray⟩ ++ ⟨#[32]⟩ ++ ⟨(Lib.itoa (ns.sum : Int)).toArray⟩ ++ ⟨#[10]⟩ := by
        unfold sumL
        rw [← ByteArray.mk_append_mk, ← ByteArray.mk_append_mk, ← ByteArray.mk_append_mk, ← ByteArray.mk_append_mk, ← ByteArray.mk_append_mk]
      rw [← e]
      exact ws_any bb _ _ _ u (HM2.out.wr.below hu) (fun k hk => HF.out.up k (by have := HM2.out.keeps.size; have := hu.size; omega)) HF.out.nb hSL.2 (by omega)
    obtain ⟨T, hT0⟩ : ∃ T, T = (⟨(tailL tagged).toArray⟩ : ByteArray) := ⟨_, rfl⟩
    have hTe : Hid (T = ⟨(tailL tagged).toArray⟩) := Lib.hid hT0
    rw [← hT0] at hTs HWS ⊢
    clear hT0
    generalize (⟨(Lib.itoa (ns.sum : Int)).toArray⟩ : ByteArray) = I at hIs HWS HFI
    have hn2 : ¬ 9223372036854775807 < 7 + T.size := by omega
    have hn3 : ¬ 9223372036854775807 < 7 + T.size + 1 := by omega
    have hn4 : ¬ 9223372036854775807 < 7 + T.size + 1 + I.size := by omega
    have hn5 : ¬ 9223372036854775807 < 7 + T.size + 1 + I.size + 1 := by omega
    generalize hv7 : w1.drewN nd = v7 at hM7 hT7 hc57 hB1 ⊢
    have HX : Hid (∀ w5 w6, Below v7.heap.size v7 w5 → WrPost w5 bb (fun k => (bb < k ∧ k < v.heap.size) ∨ v.heap.size + 3 ≤ k) (linesL tagged a b (visN ns) ++ sumL tagged a b ns.sum) w6 →
        w6.cell? ⟨v.heap.size + 1, 0, none⟩ = some (.iface 71 (.pointer (some ⟨bb, 0, none⟩))) ∧ w6.cell? ⟨v.heap.size + 2, 0, none⟩ = some (.int .u64 (ns.length : Nat)) ∧
        Wr w6 bb (fun k => (bb < k ∧ k < v.heap.size) ∨ v.heap.size + 3 ≤ k) (linesL tagged a b (visN ns) ++ sumL tagged a b ns.sum) ∧ Keeps (fun k => k = bb ∨ bb < k) v w6 ∧ v.heap.size + 3 ≤ w6.heap.size) := Lib.hid fun w5 w6 h5 hx => by
      have hzz := hM7.out.keeps.size
      have hz5 := h5.size
      have c6 := hM7.out.ct
      rw [HG.out] at c6
      have k1 : Keeps (fun k => k = bb ∨ bb < k) v v7 := (Keeps.of_below HB0.out).trans hM7.out.keeps (fun _ _ h => h) (fun k hk h => by omega)
      exact ⟨(hx.2.cell (p := ⟨v.heap.size + 1, 0, none⟩) (by show v.heap.size + 1 < _; omega) (by show ¬ (v.heap.size + 1 = bb ∨ (bb < v.heap.size + 1 ∧ v.heap.size + 1 < v.heap.size) ∨ v.heap.size + 3 ≤ v.heap.size + 1); omega)).trans ((h5.cell (p := ⟨v.heap.size + 1, 0, none⟩) (by show v.heap.size + 1 < _; omega)).trans hc57),
        (hx.2.cell (p := ⟨v.heap.size + 2, 0, none⟩) (by show v.heap.size + 2 < _; omega) (by show ¬ (v.heap.size + 2 = bb ∨ (bb < v.heap.size + 2 ∧ v.heap.size + 2 < v.heap.size) ∨ v.heap.size + 3 ≤ v.heap.size + 2); omega)).trans ((h5.cell (p := ⟨v.heap.size + 2, 0, none⟩) (by show v.heap.size + 2 < _; omega)).trans c6),
        hx.1, (k1.trans (Keeps.of_below h5) (fun _ _ h => h) (fun _ _ h => h)).trans hx.2 (fun _ _ h => h) (fun k hk h => by omega), by have := hx.2.size; omega⟩
    have HU := Lib.hid (fu_any ns.length (by omega))
    have hDs : (⟨(Lib.decDigits ns.length).toArray⟩ : ByteArray).size ≤ 2 := by
      have := decl_len ns.length (by omega)
      simp [ByteArray.size]
      omega
    have hCL : (cntL tagged a b ns.length).length ≤ 100 ∧ 0 < (cntL tagged a b ns.length).length := by
      have h1 := decl_len ns.length (by omega)
      have h2 : (tailL tagged).length ≤ 7 := by cases tagged <;> decide
      unfold cntL
      simp only [List.length_append, List.length_cons, List.length_nil]
      omega
    have HWC : Hid (∀ u, Wr u bb (fun k => (bb < k ∧ k < v.heap.size) ∨ v.heap.size + 3 ≤ k) (linesL tagged a b (visN ns) ++ sumL tagged a b ns.sum) → Keeps (fun k => k = bb ∨ bb < k) v u → v.heap.size + 3 ≤ u.heap.size → Calls Tryz.prog 62 #[.iface 71 (.pointer (some ⟨bb, 0, none⟩)), .string (⟨#[109, a, b]⟩ ++ ⟨#[95, 99, 111, 117, 110, 116]⟩ ++ T ++ ⟨#[32]⟩ ++ ⟨(Lib.decDigits ns.length).toArray⟩ ++ ⟨#[10]⟩)] u fun e w' => e = .returned (.tuple #[.int .i64 ((cntL tagged a b ns.length).length : Int), .nilIface]) ∧ MarPost v bb (outL tagged a b ns) w') := Lib.hid fun u hu hk hz => by
      have e : (⟨(cntL tagged a b ns.length).toArray⟩ : ByteArray) = ⟨#[109, a, b]⟩ ++ ⟨#[95, 99, 111, 117, 110, 116]⟩ ++ T ++ ⟨#[32]⟩ ++ ⟨(Lib.decDigits ns.length).toArray⟩ ++ ⟨#[10]⟩ := by
        unfold cntL
        rw [hTe.out, ← ByteArray.mk_append_mk, ← ByteArray.mk_append_mk, ← ByteArray.mk_append_mk, ← ByteArray.mk_append_mk, ← ByteArray.mk_append_mk]
      rw [← e]
      refine (ws_any bb _ _ _ u hu (fun k hk => by omega) (by omega) hCL.2 (by rw [List.length_append]; omega)).mono fun e w' h => ⟨h.1, ?_⟩
      have ho : outL tagged a b ns = linesL tagged a b (visN ns) ++ sumL tagged a b ns.sum ++ cntL tagged a b ns.length := by unfold outL; rw [if_neg h0]
      rw [ho]
      refine ⟨h.2.1.mono fun k hk => by omega, hk.trans h.2.2 (fun _ _ h => h) (fun k hk h => by omega), fun e => ?_⟩
      have := congrArg List.length e
      rw [List.length_append, List.length_nil] at this
      omega
    generalize (⟨(Lib.decDigits ns.length).toArray⟩ : ByteArray) = D at hDs HU HWC
    have hq2 : ¬ 9223372036854775807 < 9 + T.size := by omega
    have hq3 : ¬ 9223372036854775807 < 9 + T.size + 1 := by omega
    have hq4 : ¬ 9223372036854775807 < 9 + T.size + 1 + D.size := by omega
    have hq5 : ¬ 9223372036854775807 < 9 + T.size + 1 + D.size + 1 := by omega
    clear hc4 hc5 hc7 hc6 hord hv7
    go_region_with (first
      | (go_at_call 30; refine (HFI.out _ (by first | exact hT7.out.drew | exact hT7.out.drewN _ | exact hT7.out)).mono ?_; rintro e w5 ⟨rfl, hb5⟩; have hc58 := (hb5.cell (p := ⟨v.heap.size + 1, 0, none⟩) (by have := HF.out.l5; have := HM2.out.keeps.size; have := hB1.size; show v.heap.size + 1 < v7.heap.size; omega)).trans hc57)
      | (go_at_call 62; refine (HWS.out w5 (hB1.trans ((show Below v7.heap.size v7 w5 from ⟨hb5.os, hb5.tape, hb5.output, hb5.size, hb5.block⟩).mono hB1.size))).mono ?_; rintro e w6 ⟨rfl, hx⟩))
    all_goals
      have hb5' : Below v7.heap.size v7 w5 := ⟨hb5.os, hb5.tape, hb5.output, hb5.size, hb5.block⟩
      obtain ⟨z5, z6, zw, zk, zz⟩ := HX.out w5 w6 hb5' hx
      have HZ := Lib.hid (HWC.out w6.drew (zw.below (Below.refl _ _).drew) ⟨zk.os, zk.tape, zk.output, zk.size, zk.block⟩ zz)
      have y5 : ({ heap := w6.heap, tape := w6.tape, drawn := w6.drawn + 1, os := w6.os, output := w6.output } : World).cell? ⟨v.heap.size + 1, 0, none⟩ = some (.iface 71 (.pointer (some ⟨bb, 0, none⟩))) := z5
      have y6 : ({ heap := w6.heap, tape := w6.tape, drawn := w6.drawn + 1, os := w6.os, output := w6.output } : World).cell? ⟨v.heap.size + 1 + 1, 0, none⟩ = some (.int .u64 (ns.length : Nat)) := z6
      have z6' : w6.cell? ⟨v.heap.size + 1 + 1, 0, none⟩ = some (.int .u64 (ns.length : Nat)) := z6
      clear hb5 hx hb5' zw zk zz z6
      go_wp2_with fail
      go_still_tail 10, (by kernel_rfl)
      still_call ((HU.out _).mono fun _ _ h => ⟨h.1, h.2.symm⟩)
      repeat still_step
      refine wpStill_nil ?_
      change wpList _ _ _ _ _ w6.drew
      go_wp2_with (go_at_call 62; refine HZ.out.mono ?_; rintro e w7 ⟨rfl, hmp⟩)
      go_end0
      exact ⟨rfl, hmp⟩
end Go.Proofs.YthggdkpikjekmaaGreatRDoor
