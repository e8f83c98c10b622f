/- NewHistogram: a histogram is registered in a fresh set. -/
import Derived.Test.YthggdkpikjekmaaGreatRDoorMrh
namespace Go.Proofs.YthggdkpikjekmaaGreatRDoor
open Go.RowKit Go.Lib
set_option maxRecDepth 100000
set_option linter.unusedVariables false

def RegPost (w : World) (sb mb : Nat) (s : ByteArray) (v : Value) (e : Ending) (w' : World) : Prop :=
  e = .returned (.tuple #[]) ∧ ∃ g nb c, w.heap.size ≤ nb ∧ w.heap.size ≤ g ∧ SetOne w' sb s v g nb c ∧ Keeps (fun k => k = sb ∨ k = mb) w w'

set_option maxHeartbeats 1600000 in
theorem must_any (sb mb : Nat) (s : ByteArray) (t : TypeId) (x : Value) (w : World) (h : SetEmpty w sb mb) :
    Calls Tryz.prog 39 #[.pointer (some ⟨sb, 0, none⟩), .string s, .iface t x, .bool false] w (RegPost w sb mb s (.iface t x)) := by
  obtain ⟨c0, c1, c2, c3, fr, mp, ne, lt, ltm⟩ := h
  have hlk := run_lookup_empty s mb true w mp
  have hup : ∀ o1 v, (Instr.mapUpdate 60 (.map (some mb)) (.string s) v).run Tryz.prog (w.alloc o1) = .ok () (mapPut (w.alloc o1) mb (.map #[{ key := .string s, val := v, born := 0 }] 1)) := fun o1 v => run_mapUpdate_first (P := Tryz.prog) (w.alloc o1) 60 9 80 mb 0 s v Tryz.underlying60 Tryz.underlying9 (by rw [Below.heap_alloc _ _ _ ltm]; exact mp)
  have hblk : ∀ o1 o3, (mapPut (w.alloc o1) mb o3).heap[sb]? = w.heap[sb]? := fun o1 o3 => by rw [mapPut_heap _ _ _ _ ne, Below.heap_alloc _ _ _ lt]
  have m0 : ∀ o1 o3, (mapPut (w.alloc o1) mb o3).cell? ⟨sb, 0, none⟩ = some (.slice none 0 0) := fun o1 o3 => (World.cell?_of_block (a := ⟨sb, 0, none⟩) (hblk o1 o3)).trans c0
  have mf : ∀ o1 o3, (mapPut (w.alloc o1) mb o3).frozen? ⟨sb, 0, none⟩ = false := fun o1 o3 => (World.frozen?_of_block (a := ⟨sb, 0, none⟩) (hblk o1 o3)).trans (fr 0)
  obtain ⟨i0, hi, hz0, hz1, hz2⟩ := info_parts info_ptr
  clear mp
  go_enter Tryz.func39, Tryz.ntmps39
  go_wp2_with (at_builtin; refine wpList_append_own _ rfl _ _ 61 rfl (w.heap.size + 1) 80 i0 (.pointer none) 1 8 Tryz.underlying61 hi hz0 hz1 hz2 rfl (by decide) _ _ _ rfl (World.ownsRow_nil _ _ _ _) ⟨_, 0, none⟩ 1 1 [.pointer (some ⟨w.heap.size, 0, none⟩)] rfl rfl (one_new _ _ _) ?c2 ?c3 ?c4 ?c5 ?_)
  case c2 => simp [Value.oneCell']
  case c3 => unfold maxLen; omega
  case c5 => simp [mapPut_size]
  intro v' w1 hown hgr _
  obtain ⟨W2, hW2⟩ : ∃ W2, W2 = (w.alloc (.cells #[.string s, .iface t x, .bool false] 89)) := ⟨_, rfl⟩
  rw [← hW2] at hgr
  have hzW : W2.heap.size = w.heap.size + 1 := by rw [hW2]; simp
  have hb2 : Below w.heap.size w W2 := by rw [hW2]; exact (Below.refl _ _).alloc (Nat.le_refl _) _
  have cn : ∀ o, W2.cell? ⟨w.heap.size, o, none⟩ = (#[.string s, .iface t x, .bool false] : Array Value)[o]? := fun o => by rw [hW2]; exact World.cell?_alloc_new _ _ _ _
  have cn0 := (cn 0).trans rfl
  have cn1 := (cn 1).trans rfl
  clear hW2 cn
  rw [← hzW] at hown
  have hbs := hb2.block sb lt
  have bs : ∀ o, W2.cell? ⟨sb, o, none⟩ = w.cell? ⟨sb, o, none⟩ := fun o => World.cell?_of_block (a := ⟨sb, o, none⟩) hbs
  obtain ⟨r1, r2, r3, g, c, rfl, r4, r5, r6, r7, r8, r9, r10⟩ := reg_done ((bs 0).trans c0) ((bs 2).trans c2) ((bs 3).trans c3) (fun o => (World.frozen?_of_block (a := ⟨sb, o, none⟩) hbs).trans (fr o)) ne (by omega) hown hgr
  have P1 : Hid (RegPost w sb mb s (.iface t x) (.returned (.tuple #[])) (w1.setCell ⟨sb, 0, none⟩ (.slice (some ⟨g, 0, none⟩) 1 c))) := Lib.hid (by
    have hzz : (w1.setCell ⟨sb, 0, none⟩ (.slice (some ⟨g, 0, none⟩) 1 c)).heap.size = w1.heap.size := cs_size _ _ _
    refine ⟨rfl, g, w.heap.size, c, Nat.le_refl _, by omega, ⟨r6, r7, r8, r9, ?_, ?_, by omega, by omega, by omega⟩, ?_⟩
    · exact (r10.cell (p := ⟨w.heap.size, 0, none⟩) (by show w.heap.size < _; omega) (by show ¬ (w.heap.size = sb ∨ w.heap.size = mb); omega)).trans cn0
    · exact (r10.cell (p := ⟨w.heap.size, 1, none⟩) (by show w.heap.size < _; omega) (by show ¬ (w.heap.size = sb ∨ w.heap.size = mb); omega)).trans cn1
    · exact (Keeps.of_below hb2).trans r10 (fun _ _ h => h) (fun _ _ h => h))
  clear r10 r9 r8 r7 r6 r3 hown hgr hbs bs cn0 cn1 hb2 hup hlk hblk m0 mf c0 c1 c2 c3 fr
  go_wp2_with fail
  go_end0
  exact P1.out

theorem reg_any (sb mb : Nat) (s : ByteArray) (t : TypeId) (x : Value) (w : World) (h : SetEmpty w sb mb)
    (hv : ∀ w, Calls Tryz.prog 37 #[.string s] w fun e w' => e = .returned .nilIface ∧ w = w') :
    Calls Tryz.prog 27 #[.pointer (some ⟨sb, 0, none⟩), .string s, .iface t x] w (RegPost w sb mb s (.iface t x)) := by
  have HM := Lib.hid (must_any sb mb s t x w h)
  clear h
  go_enter Tryz.func27, Tryz.ntmps27
  go_wp2_with (first
    | (go_at_call 37; refine (hv _).mono ?_; rintro e w' ⟨rfl, rfl⟩)
    | (go_at_call 39; refine HM.out.mono ?_; rintro e w1 ⟨rfl, hp⟩))
  go_end0
  exact ⟨rfl, hp⟩

theorem SetEmpty.below {w v : World} {sb mb : Nat} (h : SetEmpty w sb mb) (hb : Below w.heap.size w v) : SetEmpty v sb mb :=
  ⟨(hb.cell (p := ⟨sb, 0, none⟩) h.lt).trans h.c0, (hb.cell (p := ⟨sb, 1, none⟩) h.lt).trans h.c1, (hb.cell (p := ⟨sb, 2, none⟩) h.lt).trans h.c2, (hb.cell (p := ⟨sb, 3, none⟩) h.lt).trans h.c3, fun o => (hb.frozen (p := ⟨sb, o, none⟩) h.lt).trans (h.fr o),
    (hb.block mb h.ltm).trans h.mp, h.ne, Nat.lt_of_lt_of_le h.lt hb.size, Nat.lt_of_lt_of_le h.ltm hb.size⟩

theorem info_hist : (Tryz.prog.info? 42).map (fun i => i.size) = some 30 := by kernel_rfl

/-- A fresh histogram in a fresh set. -/
theorem newhist (sb mb : Nat) (s : ByteArray) (w : World) (h : SetEmpty w sb mb)
    (hv : ∀ w, Calls Tryz.prog 37 #[.string s] w fun e w' => e = .returned .nilIface ∧ w = w') :
    Calls Tryz.prog 16 #[.pointer (some ⟨sb, 0, none⟩), .string s] w fun e w' => e = .returned (.pointer (some ⟨w.heap.size, 0, none⟩)) ∧
      HistAt w' w.heap.size (fun _ => none) 0 (fun _ => 0) 0 ∧ (∃ g nb c, w.heap.size < nb ∧ w.heap.size < g ∧ SetOne w' sb s (.iface 37 (.pointer (some ⟨w.heap.size, 0, none⟩))) g nb c) ∧ Keeps (fun k => k = sb ∨ k = mb) w w' := by
  have hb1 : Below w.heap.size w (w.alloc (.cells histZero 42)) := (Below.refl _ _).alloc (Nat.le_refl _) _
  have hlt := h.lt
  have hltm := h.ltm
  have HR := Lib.hid (reg_any sb mb s 37 (.pointer (some ⟨w.heap.size, 0, none⟩)) _ (h.below hb1) hv)
  have HB := Lib.hid (box_hist w)
  have HB1 := Lib.hid hb1
  clear h hb1
  go_enter Tryz.func16, Tryz.ntmps16
  go_wp2_with fail
  generalize hW : w.alloc (.cells histZero 42) = W at HR HB HB1
  have hz : W.heap.size = w.heap.size + 1 := by rw [← hW]; simp
  clear hW
  refine HR.out.mono ?_
  rintro e w1 ⟨rfl, g, nb, c, h1, h2, h3, h4⟩
  have P : Hid (HistAt w1 w.heap.size (fun _ => none) 0 (fun _ => 0) 0 ∧ (∃ g nb c, w.heap.size < nb ∧ w.heap.size < g ∧ SetOne w1 sb s (.iface 37 (.pointer (some ⟨w.heap.size, 0, none⟩))) g nb c) ∧ Keeps (fun k => k = sb ∨ k = mb) w w1) :=
    Lib.hid ⟨HB.out.keep (fun k hk => h4.block k (HB.out.own_lt k hk) (fun e => by
      rcases hk with hk | ⟨i, _, hk⟩
      · omega
      · cases hk)) h4.size, ⟨g, nb, c, by omega, by omega, h3⟩, (Keeps.of_below HB1.out).trans h4 (fun _ _ h => h) (fun _ _ h => h)⟩
  clear h3 h4
  go_wp2_with fail
  go_ret
  exact ⟨rfl, P.out⟩
end Go.Proofs.YthggdkpikjekmaaGreatRDoor
