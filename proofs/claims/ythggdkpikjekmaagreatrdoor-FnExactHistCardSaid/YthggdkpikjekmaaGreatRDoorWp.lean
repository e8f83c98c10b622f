/- WritePrometheus and ZZText over a set of one metric. -/
import Derived.Test.YthggdkpikjekmaaGreatRDoorSrt
import Derived.Test.YthggdkpikjekmaaGreatRDoorNm
import Derived.Deep.RegionWith
import Derived.Lib.SlBytesRow
import Derived.Lib.BufferRead
namespace Go.Proofs.YthggdkpikjekmaaGreatRDoor
open Go.RowKit Go.Lib
set_option maxRecDepth 100000
set_option linter.unusedVariables false

theorem Wr.keeps {w w' : World} {bb : Nat} {R S : Nat → Prop} {l : List UInt8} (h : Wr w bb R l) (hk : Keeps S w w') (hb : ¬ S bb) (hR : ∀ k, k < w.heap.size → R k → ¬ S k) : Wr w' bb R l := by
  obtain ⟨h1, h2, v, h3, h4, h5⟩ := h
  exact ⟨Nat.lt_of_lt_of_le h1 hk.size, (hk.frozen (p := ⟨bb, 0, none⟩) h1 hb).trans h2, v, (hk.cell (p := ⟨bb, 0, none⟩) h1 hb).trans h3, own_at h4 fun g hg => hk.block g (h4.lt g hg).2 (hR g (h4.lt g hg).2 (h5 g hg)), h5⟩

/-- What marshalTo leaves in the inner buffer. -/
def MarPost (v : World) (bb : Nat) (out : List UInt8) (w' : World) : Prop :=
  Wr w' bb (bb < ·) out ∧ Keeps (fun k => k = bb ∨ bb < k) v w' ∧ (out = [] → w'.cell? ⟨bb, 0, none⟩ = some (.slice none 0 0))

/-- A metric: what its two methods do. -/
structure Metric (w : World) (ty : TypeId) (mv : Value) (fm fa : Nat) (nm fam mt : List UInt8) (out : List UInt8) : Prop where
  m1 : ∀ w, (method 303 ty mv "loop.example/pub-metricpages/pub/vmmetrics.metricType").run Tryz.prog w = .ok (fm, mv) w
  m2 : ∀ w, (method 303 ty mv "loop.example/pub-metricpages/pub/vmmetrics.marshalTo").run Tryz.prog w = .ok (fa, mv) w
  e1 : ∀ args w, (callFunc fm args).run Tryz.prog w = .ok (.enter fm args) w
  e2 : ∀ args w, (callFunc fa args).run Tryz.prog w = .ok (.enter fa args) w
  c1 : ∀ w, Calls Tryz.prog fm #[mv] w fun e w' => e = .returned (.string ⟨mt.toArray⟩) ∧ w = w'
  c2 : ∀ v, Below w.heap.size w v → Wr v w.heap.size (w.heap.size < ·) [] → v.cell? ⟨w.heap.size, 0, none⟩ = some (.slice none 0 0) → Calls Tryz.prog fa #[mv, .string ⟨nm.toArray⟩, .iface 71 (.pointer (some ⟨w.heap.size, 0, none⟩))] v fun e w' => e = .returned (.tuple #[]) ∧ MarPost v w.heap.size out w'

set_option maxHeartbeats 1600000 in
theorem wp_any (w : World) (sb b0 : Nat) (ty : TypeId) (mv : Value) (fm fa : Nat) (nm fam mt out : List UInt8) (g nb c : Nat) (hM : Metric w ty mv fm fa nm fam mt out) (hS : SetOne w sb ⟨nm.toArray⟩ (.iface ty mv) g nb c)
    (hF : ∀ w, Calls Tryz.prog 43 #[.string ⟨nm.toArray⟩] w fun e w' => e = .returned (.string ⟨fam.toArray⟩) ∧ w = w') (hfam : 0 < fam.length)
    (hw : Wr w b0 (b0 < ·) []) (hout : out.length ≤ 1000000) :
    Calls Tryz.prog 28 #[.pointer (some ⟨sb, 0, none⟩), .iface 71 (.pointer (some ⟨b0, 0, none⟩))] w fun e w' => e = .returned (.tuple #[]) ∧ WrPost w b0 (b0 < ·) out w' := by
  obtain ⟨s0, s2, s3, sg, n0, n1, slt, sgl, snl⟩ := hS
  obtain ⟨m1, m2, e1, e2, k1, k2⟩ := hM
  obtain ⟨i0, hi, hz0, hz1, hz2⟩ := info_parts info_ptr
  have K1 := Lib.hid k1
  have K2 := Lib.hid k2
  have HF := Lib.hid hF
  have HW := Lib.hid hw
  clear k1 k2 hF hw
  go_enter Tryz.func28, Tryz.ntmps28
  go_wp2_with (first
    | (go_at_call 40; refine (sort_one _ _ _ _).mono ?_; rintro e w' ⟨rfl, rfl⟩)
    | (at_builtin; refine wpList_append_own_at _ rfl _ _ 61 rfl (w.heap.size + 1) 80 i0 (.pointer none) 1 8 Tryz.underlying61 hi hz0 hz1 hz2 rfl (by decide) _ _ _ rfl (World.ownsRow_nil _ _ _ _) ⟨g, 0, none⟩ 1 c [.pointer (some ⟨nb, 0, none⟩)] rfl rfl ?c1 ?c2 ?c3 ?c4 ?c5 ?_))
  case c1 =>
    intro j u hu
    match j, hu with
    | 0, hu =>
      rw [Addr.add_lit, Nat.zero_add, World.cell?_alloc_lt _ _ _ sgl, sg]
      exact hu
  case c2 => simp [Value.oneCell']
  case c3 => unfold maxLen; omega
  case c4 => omega
  case c5 => simp
  intro v' w1 hown hgr _ hob
  obtain ⟨g2, c2, rfl, hg2, hg3, hg4⟩ := own_form hown (by omega)
  have hg5 := hg4 0 _ rfl
  have hza : (w.alloc (.cells #[.slice none 0 0] 67)).heap.size = w.heap.size + 1 := by simp
  have hz1 := hgr.size
  have hb1 : Below w.heap.size w w1 := ((Below.refl _ _).alloc (Nat.le_refl _) _).grown hgr (by rw [hza]; omega) (fun k hk => by simp [Value.ownBlock] at hk)
  have hcb : w1.heap[w.heap.size]? = (w.alloc (.cells #[.slice none 0 0] 67)).heap[w.heap.size]? := hgr.block _ (by rw [hza]; omega) (by simp [Value.ownBlock])
  have ib : w1.cell? ⟨w.heap.size, 0, none⟩ = some (.slice none 0 0) := (World.cell?_of_block (a := ⟨w.heap.size, 0, none⟩) hcb).trans ((World.cell?_alloc_new _ _ _ _).trans rfl)
  have hW1 : Wr w1 w.heap.size (w.heap.size < ·) [] := ⟨by omega, (World.frozen?_of_block (a := ⟨w.heap.size, 0, none⟩) hcb).trans (World.frozen?_alloc_new _ _ _ _), _, ib, World.ownsRow_nil _ _ _ _, fun k hk => by simp [Value.ownBlock] at hk⟩
  have t0 := (hb1.cell (p := ⟨nb, 0, none⟩) snl).trans n0
  have t1 := (hb1.cell (p := ⟨nb, 1, none⟩) snl).trans n1
  have t2 := (hb1.cell (p := ⟨sb, 2, none⟩) slt).trans s2
  have t3 := (hb1.cell (p := ⟨sb, 3, none⟩) slt).trans s3
  have hfe : fam.isEmpty = false := by rw [List.isEmpty_eq_false_iff]; intro e; rw [e] at hfam; simp at hfam
  have HIB := Lib.hid ib
  have hw1z : w.heap.size < w1.heap.size := by omega
  have HW1 := Lib.hid hW1
  have HB1 := Lib.hid hb1
  clear hW1 hb1 hown hgr hg4 hob hcb ib n0 n1 s2 s3 sg s0
  go_wp2_with fail
  refine wp_loop_rounds 2 ?_
  rw [rounds_succ]
  go_wp2_with (first
    | (go_at_call 43; refine (HF.out _).mono ?_; rintro e w' ⟨rfl, rfl⟩)
    | (go_at_fn fm; refine (K1.out _).mono ?_; rintro e w' ⟨rfl, rfl⟩))
  go_quiet ((go_at_call 44; exact Calls.quiet_of_same ((meta_off _ _ _ _).mono (fun _ _ h => ⟨h.1, h.2.symm⟩))))
  go_wp2_with fail
  have HK : Hid (∀ v, Below w1.heap.size w1 v → Calls Tryz.prog fa #[mv, .string ⟨nm.toArray⟩, .iface 71 (.pointer (some ⟨w.heap.size, 0, none⟩))] v fun e w' => e = .returned (.tuple #[]) ∧ MarPost v w.heap.size out w') := Lib.hid fun v hv => K2.out v (HB1.out.trans (hv.mono HB1.out.size)) (HW1.out.below hv) ((hv.cell (p := ⟨w.heap.size, 0, none⟩) hw1z).trans HIB.out)
  have HD : Hid (∀ n, Below w1.heap.size w1 (w1.drewN n)) := Lib.hid fun n => below_drewN (Below.refl _ _) n
  go_region_with (go_at_fn fa; refine (HK.out _ (by first | exact HD.out _ | exact (HD.out _).drew)).mono ?_; rintro e w2 ⟨rfl, x1, x2, x3⟩)
  all_goals
    have y1 : Keeps (fun k => k = w.heap.size ∨ w.heap.size < k) w1 w2 := ⟨x2.os, x2.tape, x2.output, x2.size, x2.block⟩
    have y2 : Keeps (fun k => k = w.heap.size ∨ w.heap.size < k) w w2 := (Keeps.of_below HB1.out).trans y1 (fun _ _ h => h) (fun _ _ h => h)
    have HY := Lib.hid y2
    have u3 : w2.cell? ⟨sb, 3, none⟩ = some (.slice none 0 0) := (y1.cell (p := ⟨sb, 3, none⟩) (by show sb < _; omega) (by show ¬ (sb = w.heap.size ∨ w.heap.size < sb); omega)).trans t3
    have HO : Hid (Wr w2 b0 (b0 < ·) []) := Lib.hid (HW.out.keeps y2 (by have := HW.out.lt; omega) (fun k hk _ => by omega))
    obtain ⟨z1, z2, vv, z3, z4, z5⟩ := x1
    have HP : Hid (∀ v, w2.cell? ⟨w.heap.size, 0, none⟩ = some v → Calls Tryz.prog 173 #[.pointer (some ⟨b0, 0, none⟩), v] w2 fun e w3 => ∃ z, e = .returned (.tuple #[z, .nilIface]) ∧ WrPost w b0 (b0 < ·) out w3) := Lib.hid fun v hv => by
      have hb0 := HO.out.lt
      have hwb := HW.out.lt
      have hmon : Keeps (fun k => k = b0 ∨ b0 < k) w w2 := HY.out.mono (fun k _ h => by omega)
      by_cases ho : out = []
      · subst ho
        rw [x3 rfl] at hv
        injection hv with hv
        subst hv
        refine (write_nil b0 (b0 < ·) [] w2 HO.out).mono ?_
        rintro e w3 ⟨rfl, v0, p1, rfl⟩
        have hs := HO.out.fr
        refine ⟨_, rfl, ⟨by rw [cs_size]; exact hb0, by simpa using hs, ?_⟩, hmon.trans (T := fun k => k = b0) ⟨rfl, rfl, rfl, by rw [cs_size]; omega, fun k hk hn => cs_heap _ _ _ _ hn⟩ (fun _ _ h => h) (fun _ _ h => .inl h)⟩
        obtain ⟨v1, q1, q2, q3⟩ := HO.out.row
        rw [p1] at q1
        injection q1 with q1
        subst q1
        refine ⟨v0, cs_eq _ _ _ _ (by rw [p1]; rfl), own_at q2 fun g hg => cs_heap _ _ _ _ ?_, q3⟩
        have := q3 g hg
        show g ≠ b0
        omega
      · rw [z3] at hv
        injection hv with hv
        subst hv
        have hlen : 0 < out.length := List.length_pos_iff.2 ho
        obtain ⟨gg, cc, rfl, -, hgg, hcc⟩ := own_form z4 hlen
        refine (write_any b0 (b0 < ·) [] out ⟨gg, 0, none⟩ out.length cc w2 HO.out (fun k hk => by omega) (by omega) rfl hlen (by simp; omega) (fun j hj => ?_)).mono ?_
        · rw [Addr.add_lit, Nat.zero_add]
          exact hcc j _ (by rw [List.getElem?_map, List.getElem?_eq_getElem hj]; rfl)
        · rintro e w3 ⟨rfl, p1, p2⟩
          exact ⟨_, rfl, p1, hmon.trans p2 (fun _ _ h => h) (fun _ _ h => h)⟩
    clear x2 x3 y1 y2 z1 z2 z4 z5
    go_wp2_with fail
    rw [rounds_succ]
    go_wp2_with fail
    refine (HP.out _ z3).mono ?_
    rintro e w3 ⟨z, rfl, hp⟩
    have HPP := Lib.hid hp
    clear hp
    go_wp2_with fail
    refine wp_loop_rounds 1 ?_
    rw [rounds_succ]
    go_wp2_with fail
    go_end0
    exact ⟨rfl, HPP.out⟩

/-- The slice of a buffer, as a string. -/
theorem conv_any (w : World) (v : Value) (l : List UInt8) (h : w.ownsRow 0 5 1 v l.length (l.map byteV)) : (convert 22 9 v).run Tryz.prog w = .ok (.string ⟨l.toArray⟩) w := by
  rcases h.2 with ⟨rfl, h0⟩ | ⟨g, cap, cur, rfl, _⟩
  · have e : l = [] := List.length_eq_zero_iff.1 h0
    subst e
    exact run_convert_nil_bytes w _ _ 5 0 Tryz.underlying22 Tryz.underlying5 Tryz.underlying9
  · refine run_convert_whole w _ 5 _ Tryz.underlying22 Tryz.underlying5 Tryz.underlying9 g 0 ⟨l.toArray⟩ (fun i h' => ?_) cap
    have := h.cells rfl i (byteV (l[i]'h')) (by rw [List.getElem?_map, List.getElem?_eq_getElem h']; rfl)
    rw [Addr.add_lit] at this
    exact this

theorem text_any (w : World) (sb : Nat) (out : List UInt8)
    (hP : ∀ v, Below w.heap.size w v → v.heap.size = w.heap.size + 1 → Wr v w.heap.size (w.heap.size < ·) [] → Calls Tryz.prog 28 #[.pointer (some ⟨sb, 0, none⟩), .iface 71 (.pointer (some ⟨w.heap.size, 0, none⟩))] v fun e w' => e = .returned (.tuple #[]) ∧ WrPost v w.heap.size (w.heap.size < ·) out w') :
    Calls Tryz.prog 17 #[.pointer (some ⟨sb, 0, none⟩)] w fun e w' => e = .returned (.string ⟨out.toArray⟩) ∧ Below w.heap.size w w' := by
  have HP := Lib.hid hP
  clear hP
  go_enter Tryz.func17, Tryz.ntmps17
  go_wp2_with fail
  have hb : Below w.heap.size w (w.alloc (.cells #[.slice none 0 0] 67)) := (Below.refl _ _).alloc (Nat.le_refl _) _
  refine (HP.out _ hb (by simp) ⟨by simp, World.frozen?_alloc_new _ _ _ _, _, (World.cell?_alloc_new _ _ _ _).trans rfl, World.ownsRow_nil _ _ _ _, fun k hk => by simp [Value.ownBlock] at hk⟩).mono ?_
  rintro e w1 ⟨rfl, ⟨h1, h2, v, h3, h4, h5⟩, h6⟩
  have hcv := conv_any w1 v out h4
  have HB : Hid (Below w.heap.size w w1) := Lib.hid (hb.trans (h6.below_of hb.size (fun k hk => by omega)))
  clear h6 hb h4
  go_wp2_with fail
  go_ret
  exact ⟨rfl, HB.out⟩
end Go.Proofs.YthggdkpikjekmaaGreatRDoor
