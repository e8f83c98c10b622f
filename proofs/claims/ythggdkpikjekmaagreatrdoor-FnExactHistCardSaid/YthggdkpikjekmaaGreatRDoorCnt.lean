/- laws.FnCounts. -/
import Derived.Test.YthggdkpikjekmaaGreatRDoorTal
import Derived.Test.YthggdkpikjekmaaGreatRDoorSan2
namespace Go.Proofs.YthggdkpikjekmaaGreatRDoor
open Go.RowKit WholeFloats
set_option maxRecDepth 100000
set_option linter.unusedVariables false

/-- The argument: a slice of bytes. -/
def DataV (w : World) (v : Value) (ds : List Nat) : Prop :=
  (∀ d ∈ ds, d ≤ 255) ∧ ∃ A c, v = .slice A ds.length c ∧ (0 < ds.length → ∃ a o, A = some ⟨a, o, none⟩ ∧ a < w.heap.size ∧ ∀ j, j < ds.length → w.cell? ⟨a, o + j, none⟩ = some (.int .u8 (ds.getD j 0 : Nat)))

theorem Values_none (A : Option Addr) (c : Nat) (w : World) :
    Calls Tryz.prog 5 #[.slice A 0 c] w fun e w' => e = .returned (.slice none 0 0) ∧ w = w' := by
  go_enter Tryz.func5, Tryz.ntmps5
  go_wp2_with fail
  refine wp_loop_rounds 1 ?_
  rw [rounds_succ]
  go_wp2_with fail
  go_ret
  exact ⟨rfl, rfl⟩

theorem fsV_get (ns : List Nat) (k : Nat) (hk : k < ns.length) : (fsV ns)[k]? = some (.float .f64 (wf (ns.getD k 0))) := by
  unfold fsV
  rw [List.getElem?_map, List.getElem?_eq_getElem hk, List.getD_eq_getElem?_getD, List.getElem?_eq_getElem hk]
  rfl

/-- spec.Values of the argument. -/
theorem values_all (v : Value) (ds : List Nat) (w : World) (h : DataV w v ds) (hl : ds.length ≤ 2147483647) :
    Calls Tryz.prog 5 #[v] w fun e w' => ∃ fv A c, e = .returned fv ∧ fv = .slice A (valsOf ds).length c ∧ FsV w' fv (valsOf ds) ∧ Below w.heap.size w w' := by
  obtain ⟨hb, A, c, rfl, hA⟩ := h
  by_cases h0 : 0 < ds.length
  · obtain ⟨a, o, rfl, ha, hc⟩ := hA h0
    refine (Values_any a o c ds w hb hl ha hc).mono ?_
    rintro e w' ⟨B, c', rfl, hown, hbl⟩
    refine ⟨_, B, c', rfl, by rw [valsOf_length], ?_, hbl⟩
    by_cases hn : 0 < valsN ds
    · obtain ⟨g, c2, hg, hg1, hg2, hg3⟩ := own_form hown hn
      injection hg with e1 e2 e3
      subst e1
      refine .inr ⟨g, c', by rw [valsOf_length], by rw [valsOf_length]; exact hn, hg2, fun k hk => hg3 k _ (fsV_get _ k hk)⟩
    · have hz : valsN ds = 0 := by omega
      refine .inl ⟨B, c', by rw [hz], ?_⟩
      exact List.length_eq_zero_iff.1 (by rw [valsOf_length]; exact hz)
  · have hz : ds.length = 0 := by omega
    have he : ds = [] := List.length_eq_zero_iff.1 hz
    subst he
    refine (Values_none A c w).mono ?_
    rintro e w' ⟨rfl, rfl⟩
    exact ⟨_, none, 0, rfl, rfl, .inl ⟨none, 0, rfl, rfl⟩, Below.refl _ _⟩

theorem numV_get (l : Vis) (k : Nat) (hk : k < l.length) : (numV l)[k]? = some (.int .u64 (((l.map (·.2)).getD k 0 : Nat) : Int)) := by
  unfold numV
  rw [List.getElem?_map, List.getElem?_eq_getElem hk, List.getD_eq_getElem?_getD, List.getElem?_map, List.getElem?_eq_getElem hk]
  rfl

theorem tot_take_succ (l : Vis) (k : Nat) (hk : k < l.length) : tot (l.take (k + 1)) = tot (l.take k) + (l.map (·.2)).getD k 0 := by
  rw [List.take_succ_eq_append_getElem hk, tot_app, List.getD_eq_getElem?_getD, List.getElem?_map, List.getElem?_eq_getElem hk]
  simp [tot]

theorem tot_take_le (l : Vis) (k : Nat) : tot (l.take k) ≤ tot l := by
  have h := tot_app (l.take k) (l.drop k)
  rw [List.take_append_drop] at h
  omega

set_option maxHeartbeats 800000 in
theorem counts_any (v : Value) (ds : List Nat) (w : World) (hT : Tabs w) (h : DataV w v ds) :
    Calls Tryz.prog 3 #[v] w fun e w' => e = .returned (.bool true) ∧ Below w.heap.size w w' := by
  have hb := h.1
  obtain ⟨A, c, hv, -⟩ := h.2
  by_cases hl : 2147483647 < ds.length
  · subst hv
    have hl' : (2147483647 : Int) < (ds.length : Int) := by omega
    clear h
    go_enter Tryz.func3, Tryz.ntmps3
    go_wp2_with fail
    go_ret
    exact ⟨rfl, Below.refl _ _⟩
  · have HV := Lib.hid (values_all v ds w h (by omega))
    subst hv
    have hl' : ¬ (2147483647 : Int) < (ds.length : Int) := by omega
    have HT := Lib.hid hT
    have hT8 := Lib.hid hT.size
    have H1 := Lib.hid (vals_good hb)
    have H2 := Lib.hid (valsOf_sum hb)
    have hn := valsN_le ds
    rw [← valsOf_length] at hn
    have HTal := Lib.hid (tally (valsOf ds) H1.out)
    have HSan := Lib.hid sane_any
    clear h hT hb
    generalize hns : valsOf ds = ns at *
    go_enter Tryz.func3, Tryz.ntmps3
    go_wp2_with (go_at_call 5; refine HV.out.mono ?_; rintro e w1 ⟨fv, A1, c1, rfl, rfl, hfs, hb1⟩)
    refine (buckets_any ns _ w1 (HT.out.below hb1 hT8.out) (by omega) H2.out H1.out hfs).mono ?_
    rintro e w2 ⟨rv, cv, rfl, -, hown, hb2⟩
    have HB2 := Lib.hid (hb1.trans (hb2.mono hb1.size))
    have hLl : (visN ns).length ≤ 487 := by unfold visN; exact visD_len _ _ 27
    generalize visN ns = L at HTal hown hLl
    have htot : tot L ≤ 30 := by rw [HTal.out]; exact hn
    obtain ⟨B, c2, rfl, hcell⟩ : ∃ B c2, cv = .slice B L.length c2 ∧ (0 < L.length → ∃ g, B = some ⟨g, 0, none⟩ ∧ ∀ k, k < L.length → w2.cell? ⟨g, k, none⟩ = some (.int .u64 (((L.map (·.2)).getD k 0 : Nat) : Int))) := by
      by_cases h0 : 0 < L.length
      · obtain ⟨g, c2, hg, _, _, hg3⟩ := own_form hown h0
        exact ⟨_, _, hg, fun _ => ⟨g, rfl, fun k hk => hg3 k _ (numV_get L k hk)⟩⟩
      · rcases hown.2 with ⟨h, h1⟩ | ⟨g, cap, cur, h, _⟩
        · exact ⟨none, 0, by rw [h1]; exact h, fun h2 => absurd h2 h0⟩
        · exact ⟨_, _, h, fun h2 => absurd h2 h0⟩
    have HC := Lib.hid hcell
    clear hcell hown hb2 hb1 hfs HV
    go_wp2_with fail
    go_loop [4, 21] (fun x y => ∃ k : Nat, k ≤ L.length ∧ y = .int .i64 k ∧ x = .int .u64 ((tot (L.take k) : Nat) : Int)) (fun _ y => L.length - (RowKit.intOf y).toNat)
    case atStart => exact ⟨0, Nat.zero_le _, rfl, by rw [List.take_zero, tot_nil]; rfl⟩
    case round =>
      obtain ⟨k, hk, rfl, rfl⟩ := hrel
      by_cases hlt : k < L.length
      · obtain ⟨g, rfl, hcell⟩ := HC.out (by omega)
        have hck := hcell k hlt
        have hts := Lib.hid (tot_take_succ L k hlt)
        have htl := tot_take_le L (k + 1)
        rw [hts.out] at htl
        clear hcell
        generalize (L.map (·.2)).getD k 0 = m at hck hts htl
        generalize tot (L.take k) = t at hts htl
        go_wp2_with fail
        go_round
        case rel => exact ⟨k + 1, by omega, by go_num, by rw [hts.out]; go_num⟩
        case measure => simp [RowKit.intOf]; omega
      · obtain rfl : k = L.length := by omega
        rw [List.take_length, HTal.out]
        go_wp2_with fail
        refine (HSan.out w2).mono ?_
        rintro e w3 ⟨rfl, hb3⟩
        have HB3 := Lib.hid (HB2.out.trans (hb3.mono HB2.out.size))
        clear hb3
        simp only []
        go_at_K
        go_wp2_with fail
        go_ret
        exact ⟨rfl, HB3.out⟩
end Go.Proofs.YthggdkpikjekmaaGreatRDoor
