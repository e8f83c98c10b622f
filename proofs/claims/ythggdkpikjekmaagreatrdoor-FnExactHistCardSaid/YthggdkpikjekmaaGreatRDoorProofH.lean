/- The law FnExactHist answers true for every number, bool and slice of bytes and leaves the slice as it was: a histogram writes its buckets, the sum of all values, and how many they are; its row and its tied card. Conditions: the row's own alone (the listed tables of the library hold what their text lays). -/
import Derived.Test.YthggdkpikjekmaaGreatRDoorLawh
import Derived.Test.YthggdkpikjekmaaGreatRDoorCnt
import Derived.Test.YthggdkpikjekmaaGreatRDoorLaid
import Derived.Test.YthggdkpikjekmaaGreatRDoorCards
import Derived.Test.YthggdkpikjekmaaGreatRDoorTie
import Derived.WalkKit
import Derived.ProofKit
import Derived.OpenShut
import Derived.ShutString
import Derived.ChangeOld
import Derived.Below
import Derived.LaidMore
import Derived.Lay
import Derived.SevenTiedAt
import Derived.Stop.Joined
namespace Go.Proofs.YthggdkpikjekmaaGreatRDoor.fnExactHist
open Go.ChangeShapes Go.WideShapes Go.ChangeAt Go.RowKit
set_option linter.unusedVariables false

theorem own : ownKnob Tryz.prog.godebug = none := by kernel_rfl
theorem laidOut : laidOutB Tryz.prog = true := by kernel_rfl

/-- A slice of bytes that came in, as the walk takes it. -/
theorem data_of {W : World} {v0 : Value} {H : Type} {enc : TypeId × Value → H} {d0 : DataW H} {p0 : List MemPlace} (hok : ∃ a len cap, v0 = .slice a len cap) (h0 : DataW.Trod enc Tryz.prog W 0 (fun _ => true) true 22 v0 d0 p0)
    : ∃ ds, DataV W v0 ds := by
  obtain ⟨a0, len0, cap0, rfl⟩ := hok
  obtain ⟨fuel, hf⟩ := h0
  rcases open_ints Tryz.underlying22 Tryz.underlying5 (by kernel_rfl) hf with ⟨hcs, _⟩ | ⟨x, l, c, zs, hcs, _, hl, hm, hz, hx, hcell, hwz⟩
  · simp [Value.cells] at hcs
    obtain ⟨rfl, rfl, rfl⟩ := hcs
    exact ⟨[], by simp, none, 0, rfl, fun h => by simp at h⟩
  · simp [Value.cells] at hcs
    obtain ⟨rfl, rfl, rfl⟩ := hcs
    simp only [if_true] at hz
    have bnd : ∀ z ∈ zs, 0 ≤ z ∧ z ≤ 255 := fun z hz' => by
      have h5 := hwz z hz'
      have e1 : IntKind.u8.min = 0 := rfl
      have e2 : IntKind.u8.max = 255 := rfl
      simpa [Lit.wf, e1, e2] using h5
    have hlen : (zs.take len0).length = len0 := by rw [List.length_take]; omega
    refine ⟨(zs.take len0).map Int.toNat, ?_, some x, cap0, by rw [List.length_map, hlen], fun h0 => ?_⟩
    · intro d hd
      simp only [List.mem_map] at hd
      obtain ⟨z, hz', rfl⟩ := hd
      have := bnd z (List.mem_of_mem_take hz')
      omega
    · rw [List.length_map, hlen] at h0
      obtain ⟨b, off, spot⟩ := x
      have hspot : spot = none := by simpa [Addr.add] using World.cell?_spot (hcell 0 (by omega))
      subst hspot
      refine ⟨b, off, rfl, ?_, fun j hj => ?_⟩
      · have hc := hcell 0 (by omega)
        by_cases hb : b < W.heap.size
        · exact hb
        · have e : W.heap[b]? = none := Array.getElem?_eq_none (by omega)
          have : W.cell? ((⟨b, off, none⟩ : Addr).add 0) = none := by
            have e2 : W.heap[((⟨b, off, none⟩ : Addr).add 0).block]? = none := e
            unfold World.cell?
            rw [e2]
          rw [this] at hc
          cases hc
      · rw [List.length_map, hlen] at hj
        have hc := hcell j (by omega)
        have e : (⟨b, off, none⟩ : Addr).add j = ⟨b, off + j, none⟩ := Addr.add_lit _ _ _
        rw [e] at hc
        rw [hc]
        have hjz : j < zs.length := by omega
        have hb := bnd (zs[j]) (List.getElem_mem hjz)
        have e2 : ((zs.take len0).map Int.toNat).getD j 0 = (zs[j]).toNat := by
          rw [List.getD_eq_getElem?_getD, List.getElem?_map, List.getElem?_take_of_lt hj, List.getElem?_eq_getElem hjz]
          rfl
        rw [e2, List.getD_eq_getElem?_getD, List.getElem?_eq_getElem hjz, Option.getD_some, Int.toNat_of_nonneg hb.1]

set_option maxRecDepth 100000 in
theorem lifted (os : Os) (started : os.Started) (H : Type) (enc : TypeId × Value → H) :
    ReturnsInHanded {} Tryz.checked os 4 .any (fun w args => (Rows.fnExactHistSpec.pre enc Tryz.prog Tryz.f4 Rows.fnExactHistRow.domain false w args ∧ laidMetH Tryz.prog Rows.fnExactHistRow.laid w) ∧ sizedMet enc Tryz.prog Tryz.f4 (OpenSpec.ofChange Rows.fnExactHistSpec) false w args)
      (Rows.fnExactHistSpec.post enc Tryz.prog Tryz.f4 false true false false) := by
  refine returnsInHanded_of_change_and (C := Tryz.checked) (X := fun w _ => laidMetH Tryz.prog Rows.fnExactHistRow.laid w) (fun _ _ _ hh h => h.of_heap hh) own started (by kernel_rfl) Tryz.func4
    (ChangeSpec.witness_shaped (enc := enc) (C := Tryz.checked) (os := os) (X := fun w _ => laidMetH Tryz.prog Rows.fnExactHistRow.laid w) false (World.laidAll Tryz.prog os Rows.fnExactHistRow.laid) #[.int .u8 0, .bool false, .slice none 0 0] 8 (World.laidAll_os _ _ _)
      (World.shaped_of_ZipB (by kernel_rfl) (by kernel_rfl)) (by kernel_rfl) (by kernel_rfl) (by kernel_rfl)
      (by rw [MakeChecks.laidMetH_plain _ _ _ (by kernel_rfl)]; exact laidMet_laidAll _ (by kernel_rfl) (by kernel_rfl))) ?_
  intro W base args ds gs before hval0 hW hcnd _ hL _
  have hval : ∀ (j : Nat) t v, Tryz.f4.params[j]? = some t → args[j]? = some v → Value.okWide Tryz.prog W .any base t v := hval0
  have hW' := hW
  obtain ⟨p, q, hA0, hV, rfl, hfz, hnd⟩ := hW
  have hA : DataW.TrodAll enc Tryz.prog W 0 (fun _ => true) true Tryz.f4.params.toList args.toList ds p := hA0
  rw [Tryz.params4] at hA hval
  obtain ⟨v0, vs0, d0, ds0, p0, q0, hargs, rfl, rfl, h0, r0⟩ := trodAll_cons hA
  obtain ⟨v1, vs1, d1, ds1, p1, q1, hargs1, rfl, rfl, h1, r1⟩ := trodAll_cons r0
  obtain ⟨v2, vs2, d2, ds2, p2, q2, hargs2, rfl, rfl, h2, r2⟩ := trodAll_cons r1
  obtain ⟨rfl, rfl, rfl⟩ := trodAll_nil r2
  obtain rfl : args = #[v0, v1, v2] := by cases args; simp_all
  obtain ⟨rfl, rfl⟩ := trodVars_none hV
  obtain ⟨x, rfl, rfl, rfl, wx⟩ := open_int Tryz.underlying5 (hval 0 5 v0 rfl rfl) h0
  obtain ⟨tg, rfl, rfl, rfl⟩ := open_bool Tryz.underlying4 (hval 1 4 v1 rfl rfl) h1
  have hsl := okWide_slice Tryz.underlying22 (hval 2 22 v2 rfl rfl)
  have k2 := h2
  have lt2 : ∀ x ∈ p2, x.block < W.heap.size := by obtain ⟨m, hm⟩ := k2; exact DataW.trod_lt m _ _ _ hm
  obtain ⟨zs, hD⟩ := data_of hsl h2
  have hx : 0 ≤ x ∧ x ≤ 255 := by
    have e1 : IntKind.u8.min = 0 := rfl
    have e2 : IntKind.u8.max = 255 := rfl
    simpa [Lit.wf, e1, e2] using wx
  obtain ⟨n, rfl⟩ : ∃ n : Nat, x = n := ⟨x.toNat, by omega⟩
  clear hA0 hval0
  simp only [List.append_nil, List.nil_append] at hW'
  refine (exact_any n (by omega) tg v2 zs W (tabs_of_laid hL) hD).mono fun e W' ⟨he, bel⟩ => ?_
  subst he
  exact ⟨_, rfl, _, _, _, [], _, [], hW', trodAll_mk1 (shut_bool Tryz.underlying4 _), (trodAll_cons_mk (shut_int Tryz.underlying5 wx) (trodAll_cons_mk (shut_bool Tryz.underlying4 _) (trodAll_cons_mk (Below.trod laidOut (by kernel_rfl) (of_decide_eq_true (by kernel_rfl)) k2 bel lt2) trodAll_mk0))), rfl, bel.frame _, fun h => by cases h⟩

theorem said : Rows.FnExactHistSaid :=
  OpenClaim.holds_of_wide 4 Tryz.f4 rfl rfl rfl rfl rfl rfl rfl ⟨rfl, rfl, rfl, rfl, rfl⟩ rfl rfl rfl rfl rfl (by kernel_rfl) Tryz.func4 (by kernel_rfl)
    (of_decide_eq_true (by kernel_rfl)) (by unfold Func.isWrapper; first | (rw [if_pos (by decide +kernel)]; kernel_rfl) | (rw [if_neg (by decide +kernel)]; exact ⟨rfl, rfl⟩))
    (fun os started H enc _ => lifted os started H enc)

theorem plain (f : FuncId) (fn : Func) (hf : Tryz.pinned.checked.prog.funcNamed "loop.example/pub-metricpages/laws.FnExactHist" = some f) (hfn : Tryz.pinned.checked.prog.funcs[f]? = some fn) :
    true = Tryz.pinned.checked.prog.looks [] ∧ ∀ (j : Nat) t, fn.params[j]? = some t → Tryz.pinned.checked.prog.wantsStandIn t = false := by
  obtain rfl : f = 4 := Option.some.inj ((show Tryz.prog.funcNamed "loop.example/pub-metricpages/laws.FnExactHist" = some 4 by kernel_rfl).symm.trans hf) |>.symm
  obtain rfl : fn = Tryz.f4 := (Option.some.inj (Tryz.func4.symm.trans hfn)).symm
  refine ⟨by kernel_rfl, fun j t ht => ?_⟩
  rw [Tryz.params4] at ht
  have hm : t ∈ [5, 4, 22] := by simpa using Array.mem_of_getElem? ht
  have hall : ([5, 4, 22].all fun u => !Tryz.prog.wantsStandIn u) = true := by kernel_rfl
  exact (show Tryz.prog.wantsStandIn t = false by simpa using List.all_eq_true.1 hall t hm)

/-- THE CARD. -/
theorem card : Rows.FnExactHistCardSaid :=
  Claim7.holds_tied_plain_at .later [] _ _ _ _ said (fun _ h => by cases h) (by kernel_rfl) (fun _ h => by cases h) fnExactHist_row_tie rfl ⟨rfl, rfl⟩ (by kernel_rfl) rfl plain (by kernel_rfl)
#print axioms card
end Go.Proofs.YthggdkpikjekmaaGreatRDoor.fnExactHist
