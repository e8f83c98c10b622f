/- spec.Hist. -/
import Derived.Test.YthggdkpikjekmaaGreatRDoorSp
namespace Go.Proofs.YthggdkpikjekmaaGreatRDoor
open Go.RowKit Go.Lib WholeFloats
set_option maxRecDepth 100000
set_option linter.unusedVariables false

def tgL (tagged : Bool) : List UInt8 := if tagged then [116, 61, 34, 120, 34] else []

/-- A slice of one-celled values, read cell by cell. -/
def RowV (w : World) (v : Value) (xs : List Value) : Prop := ∃ A c, v = .slice A xs.length c ∧ (0 < xs.length → ∃ g, A = some ⟨g, 0, none⟩ ∧ ∀ k u, xs[k]? = some u → w.cell? ⟨g, k, none⟩ = some u)

theorem rowV_of {w : World} {B n : Nat} {e : TypeId} {v : Value} {xs : List Value} (h : w.ownsRow B e 1 v n xs) (hn : xs.length = n) : RowV w v xs := by
  subst hn
  by_cases h0 : 0 < xs.length
  · obtain ⟨g, c, hv, _, _, hg⟩ := own_form h h0
    exact ⟨_, c, hv, fun _ => ⟨g, rfl, hg⟩⟩
  · rcases h.2 with ⟨hv, h1⟩ | ⟨g, cap, cur, hv, _⟩
    · exact ⟨none, 0, by rw [h1]; exact hv, fun h2 => absurd h2 h0⟩
    · exact ⟨_, _, hv, fun h2 => absurd h2 h0⟩

theorem RowV.below {w w' : World} {v : Value} {xs : List Value} (h : RowV w v xs) (hb : Below w.heap.size w w') : RowV w' v xs := by
  obtain ⟨A, c, h1, h2⟩ := h
  refine ⟨A, c, h1, fun h0 => ?_⟩
  obtain ⟨g, h3, h4⟩ := h2 h0
  refine ⟨g, h3, fun k u hu => ?_⟩
  have hc := h4 k u hu
  by_cases hg : g < w.heap.size
  · exact (hb.cell (p := ⟨g, k, none⟩) hg).trans hc
  · have e : w.heap[g]? = none := Array.getElem?_eq_none (by omega)
    unfold World.cell? at hc
    simp only [e] at hc
    cases hc

theorem nameV_get (l : Vis) (k : Nat) (hk : k < l.length) : (nameV l)[k]? = some (.string ⟨(l[k]).1.toArray⟩) := by
  unfold nameV
  rw [List.getElem?_map, List.getElem?_eq_getElem hk]
  rfl
theorem numV_get2 (l : Vis) (k : Nat) (hk : k < l.length) : (numV l)[k]? = some (.int .u64 ((l[k]).2 : Int)) := by
  unfold numV
  rw [List.getElem?_map, List.getElem?_eq_getElem hk]
  rfl

theorem lines_take (tagged : Bool) (a b : UInt8) (l : Vis) (k : Nat) (hk : k < l.length) : linesL tagged a b (l.take (k + 1)) = linesL tagged a b (l.take k) ++ lineL tagged a b (l[k]).1 (l[k]).2 := by
  rw [List.take_succ_eq_append_getElem hk]
  exact linesL_snoc tagged a b _ _ _

set_option maxHeartbeats 1600000 in
theorem shist_any (tagged : Bool) (a b : UInt8) (ns : List Nat) (fv rv cv : Value) (w : World) (hT : Tabs w) (hl : ns.length ≤ 30) (hsm : ns.sum < 2 ^ 53) (hfv : FsV w fv ns) (hfl : ∃ A c, fv = .slice A ns.length c)
    (hr : RowV w rv (nameV (visN ns))) (hc : RowV w cv (numV (visN ns))) :
    Calls Tryz.prog 10 #[.string ⟨#[109, a, b]⟩, .string ⟨(tgL tagged).toArray⟩, fv, rv, cv] w fun e w' => e = .returned (.string ⟨(outL tagged a b ns).toArray⟩) ∧ Below w.heap.size w w' := by
  obtain ⟨A, c, rfl⟩ := hfl
  have HTot := Lib.hid (total_any ns _ w hT hsm hl hfv)
  have HFin := Lib.hid (fine_visN ns hl)
  have hvl : (visN ns).length ≤ 487 := by unfold visN; exact visD_len _ _ 27
  have HFl := Lib.hid fun k => linesL_fine tagged a b ((visN ns).take k) fun x hx => HFin.out x (List.mem_of_mem_take hx)
  by_cases h0 : ns.length = 0
  · have he : ns = [] := List.length_eq_zero_iff.1 h0
    have ho : Hid (outL tagged a b ns = []) := Lib.hid (by unfold outL; rw [if_pos he])
    have h0' : (ns.length : Int) = 0 := by omega
    clear he hfv hT
    go_enter Tryz.func10, Tryz.ntmps10
    go_wp2_with fail
    go_ret
    exact ⟨by rw [ho.out]; rfl, Below.refl _ _⟩
  · have hne : ((ns.length : Int) == 0) = false := by rw [beq_eq_false_iff_ne]; omega
    generalize hL : visN ns = L at hr hc HFin hvl HFl
    have HLv := Lib.hid hL
    obtain ⟨A1, c1, rfl, hr1⟩ := hr
    obtain ⟨A2, c2, rfl, hc1⟩ := hc
    have el1 : (nameV L).length = L.length := by simp [nameV]
    have el2 : (numV L).length = L.length := by simp [numV]
    rw [el1] at hr1 ⊢
    rw [el2] at hc1 ⊢
    have HR := Lib.hid hr1
    have HC := Lib.hid hc1
    clear hr1 hc1 hfv hT hL el1 el2
    cases tagged
    · have hfe : (⟨(tgL false).toArray⟩ : ByteArray) = ⟨#[]⟩ := rfl
      rw [hfe]
      go_enter Tryz.func10, Tryz.ntmps10
      go_wp2_with fail
      go_loop [11, 29] (fun o i => ∃ k : Nat, k ≤ L.length ∧ i = .int .i64 k ∧ o = .string ⟨(linesL false a b (L.take k)).toArray⟩) (fun _ i => L.length - (RowKit.intOf i).toNat)
      case atStart => exact ⟨0, Nat.zero_le _, rfl, rfl⟩
      case round =>
        obtain ⟨k, hk, rfl, rfl⟩ := hrel
        have hXl := HFl.out k
        rw [List.length_take] at hXl
        by_cases hlt : k < L.length
        · obtain ⟨g1, rfl, hg1⟩ := HR.out (by omega)
          obtain ⟨g2, rfl, hg2⟩ := HC.out (by omega)
          have hn1 := hg1 k _ (nameV_get L k hlt)
          have hn2 := hg2 k _ (numV_get2 L k hlt)
          have hfi := HFin.out (L[k]) (List.getElem_mem hlt)
          have hst := Lib.hid (lines_take false a b L k hlt)
          clear hg1 hg2
          generalize (L[k]).1 = r at hn1 hfi hst
          generalize (L[k]).2 = n at hn2 hfi hst
          have hf1 := hfi.1
          have HU := Lib.hid (fu_any n hfi.2)
          have hdl := decl_len n hfi.2
          have hst2 : Hid ((⟨(linesL false a b (L.take (k + 1))).toArray⟩ : ByteArray) = ⟨(linesL false a b (L.take k)).toArray⟩ ++ (⟨#[109, a, b]⟩ ++ ⟨#[95, 98, 117, 99, 107, 101, 116]⟩ ++ ⟨#[123]⟩ ++ ⟨#[118, 109, 114, 97, 110, 103, 101, 61, 34]⟩ ++ ⟨r.toArray⟩ ++ ⟨#[34, 125, 32]⟩ ++ ⟨(Lib.decDigits n).toArray⟩ ++ ⟨#[10]⟩)) := Lib.hid (by
            rw [hst.out]
            apply ByteArray.ext
            simp [lineL, labL, tagOf])
          generalize linesL false a b (L.take k) = X at hXl hst2 ⊢
          generalize Lib.decDigits n = D at HU hdl hst2
          clear hst hfi
          go_wp2_with (go_at_call 18; refine (HU.out _).mono ?_; rintro e w' ⟨rfl, rfl⟩)
          go_round
          case rel => exact ⟨k + 1, by omega, by go_num, by rw [hst2.out]⟩
          case measure => simp [RowKit.intOf]; omega
        · obtain rfl : k = L.length := by omega
          have hXL := HFl.out L.length
          rw [List.take_length] at hXL ⊢
          have hIl := itoa_len ns.sum hsm
          have hDl := decl_len ns.length (by omega)
          have HIt : Hid (∀ w : World, Calls Tryz.prog 20 #[.int .i64 (ns.length : Int)] w fun e w' => e = .returned (.string ⟨(Lib.decDigits ns.length).toArray⟩) ∧ w = w') := Lib.hid fun w => (Tryz.strconv_Itoa_small ns.length (by omega) w).mono fun _ _ h => ⟨h.1, h.2.symm⟩
          have hfin : Hid ((⟨(outL false a b ns).toArray⟩ : ByteArray) = ⟨(linesL false a b L).toArray⟩ ++ ⟨#[109, a, b]⟩ ++ ⟨#[95, 115, 117, 109]⟩ ++ ⟨#[]⟩ ++ ⟨#[32]⟩ ++ ⟨(Lib.itoa (ns.sum : Int)).toArray⟩ ++ ⟨#[10]⟩ ++ ⟨#[109, a, b]⟩ ++ ⟨#[95, 99, 111, 117, 110, 116]⟩ ++ ⟨#[]⟩ ++ ⟨#[32]⟩ ++ ⟨(Lib.decDigits ns.length).toArray⟩ ++ ⟨#[10]⟩) := Lib.hid (by
            apply ByteArray.ext
            have hns : ns ≠ [] := fun e => h0 (by rw [e]; rfl)
            simp [outL, hns, sumL, cntL, tailL, HLv.out])
          generalize linesL false a b L = X at hXL hfin ⊢
          generalize Lib.decDigits ns.length = D at hDl HIt hfin
          generalize Lib.itoa (ns.sum : Int) = I at hIl HTot hfin
          clear HFl hXl
          go_wp2_with (first
            | (go_at_call 19; refine HTot.out.mono ?_; rintro e w1 ⟨rfl, hb1⟩)
            | (go_at_call 20; refine (HIt.out _).mono ?_; rintro e w' ⟨rfl, rfl⟩))
          go_ret
          exact ⟨by rw [hfin.out]; rfl, hb1⟩
    · have hfe : (⟨(tgL true).toArray⟩ : ByteArray) = ⟨#[116, 61, 34, 120, 34]⟩ := rfl
      rw [hfe]
      go_enter Tryz.func10, Tryz.ntmps10
      go_wp2_with fail
      go_loop [11, 29] (fun o i => ∃ k : Nat, k ≤ L.length ∧ i = .int .i64 k ∧ o = .string ⟨(linesL true a b (L.take k)).toArray⟩) (fun _ i => L.length - (RowKit.intOf i).toNat)
      case atStart => exact ⟨0, Nat.zero_le _, rfl, rfl⟩
      case round =>
        obtain ⟨k, hk, rfl, rfl⟩ := hrel
        have hXl := HFl.out k
        rw [List.length_take] at hXl
        by_cases hlt : k < L.length
        · obtain ⟨g1, rfl, hg1⟩ := HR.out (by omega)
          obtain ⟨g2, rfl, hg2⟩ := HC.out (by omega)
          have hn1 := hg1 k _ (nameV_get L k hlt)
          have hn2 := hg2 k _ (numV_get2 L k hlt)
          have hfi := HFin.out (L[k]) (List.getElem_mem hlt)
          have hst := Lib.hid (lines_take true a b L k hlt)
          clear hg1 hg2
          generalize (L[k]).1 = r at hn1 hfi hst
          generalize (L[k]).2 = n at hn2 hfi hst
          have hf1 := hfi.1
          have HU := Lib.hid (fu_any n hfi.2)
          have hdl := decl_len n hfi.2
          have hst2 : Hid ((⟨(linesL true a b (L.take (k + 1))).toArray⟩ : ByteArray) = ⟨(linesL true a b (L.take k)).toArray⟩ ++ (⟨#[109, a, b]⟩ ++ ⟨#[95, 98, 117, 99, 107, 101, 116]⟩ ++ (⟨#[123]⟩ ++ ⟨#[116, 61, 34, 120, 34]⟩ ++ ⟨#[44]⟩) ++ ⟨#[118, 109, 114, 97, 110, 103, 101, 61, 34]⟩ ++ ⟨r.toArray⟩ ++ ⟨#[34, 125, 32]⟩ ++ ⟨(Lib.decDigits n).toArray⟩ ++ ⟨#[10]⟩)) := Lib.hid (by
            rw [hst.out]
            apply ByteArray.ext
            simp [lineL, labL, tagOf])
          generalize linesL true a b (L.take k) = X at hXl hst2 ⊢
          generalize Lib.decDigits n = D at HU hdl hst2
          clear hst hfi
          go_wp2_with (go_at_call 18; refine (HU.out _).mono ?_; rintro e w' ⟨rfl, rfl⟩)
          go_round
          case rel => exact ⟨k + 1, by omega, by go_num, by rw [hst2.out]⟩
          case measure => simp [RowKit.intOf]; omega
        · obtain rfl : k = L.length := by omega
          have hXL := HFl.out L.length
          rw [List.take_length] at hXL ⊢
          have hIl := itoa_len ns.sum hsm
          have hDl := decl_len ns.length (by omega)
          have HIt : Hid (∀ w : World, Calls Tryz.prog 20 #[.int .i64 (ns.length : Int)] w fun e w' => e = .returned (.string ⟨(Lib.decDigits ns.length).toArray⟩) ∧ w = w') := Lib.hid fun w => (Tryz.strconv_Itoa_small ns.length (by omega) w).mono fun _ _ h => ⟨h.1, h.2.symm⟩
          have hfin : Hid ((⟨(outL true a b ns).toArray⟩ : ByteArray) = ⟨(linesL true a b L).toArray⟩ ++ ⟨#[109, a, b]⟩ ++ ⟨#[95, 115, 117, 109]⟩ ++ (⟨#[123]⟩ ++ ⟨#[116, 61, 34, 120, 34]⟩ ++ ⟨#[125]⟩) ++ ⟨#[32]⟩ ++ ⟨(Lib.itoa (ns.sum : Int)).toArray⟩ ++ ⟨#[10]⟩ ++ ⟨#[109, a, b]⟩ ++ ⟨#[95, 99, 111, 117, 110, 116]⟩ ++ (⟨#[123]⟩ ++ ⟨#[116, 61, 34, 120, 34]⟩ ++ ⟨#[125]⟩) ++ ⟨#[32]⟩ ++ ⟨(Lib.decDigits ns.length).toArray⟩ ++ ⟨#[10]⟩) := Lib.hid (by
            apply ByteArray.ext
            have hns : ns ≠ [] := fun e => h0 (by rw [e]; rfl)
            simp [outL, hns, sumL, cntL, tailL, HLv.out])
          generalize linesL true a b L = X at hXL hfin ⊢
          generalize Lib.decDigits ns.length = D at hDl HIt hfin
          generalize Lib.itoa (ns.sum : Int) = I at hIl HTot hfin
          clear HFl hXl
          go_wp2_with (first
            | (go_at_call 19; refine HTot.out.mono ?_; rintro e w1 ⟨rfl, hb1⟩)
            | (go_at_call 20; refine (HIt.out _).mono ?_; rintro e w' ⟨rfl, rfl⟩))
          go_ret
          exact ⟨by rw [hfin.out]; rfl, hb1⟩
end Go.Proofs.YthggdkpikjekmaaGreatRDoor
