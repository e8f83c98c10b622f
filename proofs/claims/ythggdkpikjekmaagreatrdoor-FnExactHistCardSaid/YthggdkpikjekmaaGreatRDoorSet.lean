/- Sets: NewSet, GetOrCreateCounter, Add. -/
import Derived.Test.YthggdkpikjekmaaGreatRDoorIdn
import Derived.Test.YthggdkpikjekmaaGreatRDoorBuk
import Derived.WideMake
namespace Go.Proofs.YthggdkpikjekmaaGreatRDoor
open Go.RowKit Go.Lib
set_option maxRecDepth 100000
set_option linter.unusedVariables false

theorem run_lookup_empty (s : ByteArray) (r : Nat) (c : Bool) (w : World) (hb : w.heap[r]? = some (.map #[] 0)) :
    (Instr.lookup 60 (.map (some r)) (.string s) c).run Tryz.prog w = .ok (if c then .tuple #[.pointer none, .bool false] else .pointer none) w := by
  have hf : Instr.findNow .string (.string s) ([] : List MapEntry) 0 = some none := rfl
  have hc : (Instr.checkKey true 10000 9 (.string s)).run Tryz.prog w = .ok () w := MapKept.run_checkKey (k := .string s) Tryz.underlying9 (by simp [MapKept.IsKey]) true 9999
  have hz : (zeroValue 80).run Tryz.prog w = .ok (.pointer none) w := by kernel_rfl
  simp [Instr.lookup, run_underlying Tryz.underlying60, MapKept.run_getObj_map hb, hc, MapKept.run_findKey Tryz.underlying9 hf, hz, Result.andThen]

def mapPut (w : World) (r : Nat) (o : Obj) : World := { w with heap := w.heap.setIfInBounds r o }
theorem mapPut_size (w : World) (r : Nat) (o : Obj) : (mapPut w r o).heap.size = w.heap.size := by show (w.heap.setIfInBounds r o).size = _; simp
theorem mapPut_heap (w : World) (r : Nat) (o : Obj) (k : Nat) (h : k ≠ r) : (mapPut w r o).heap[k]? = w.heap[k]? := by show (w.heap.setIfInBounds r o)[k]? = _; exact Array.getElem?_setIfInBounds_ne (Ne.symm h)

structure SetEmpty (w : World) (sb mb : Nat) : Prop where
  c0 : w.cell? ⟨sb, 0, none⟩ = some (.slice none 0 0)
  c1 : w.cell? ⟨sb, 1, none⟩ = some (.map (some mb))
  c2 : w.cell? ⟨sb, 2, none⟩ = some (.bool false)
  c3 : w.cell? ⟨sb, 3, none⟩ = some (.slice none 0 0)
  fr : ∀ o, w.frozen? ⟨sb, o, none⟩ = false
  mp : w.heap[mb]? = some (.map #[] 0)
  ne : sb ≠ mb
  lt : sb < w.heap.size
  ltm : mb < w.heap.size

structure SetOne (w : World) (sb : Nat) (s : ByteArray) (v : Value) (g nb c : Nat) : Prop where
  c0 : w.cell? ⟨sb, 0, none⟩ = some (.slice (some ⟨g, 0, none⟩) 1 c)
  c2 : w.cell? ⟨sb, 2, none⟩ = some (.bool false)
  c3 : w.cell? ⟨sb, 3, none⟩ = some (.slice none 0 0)
  cg : w.cell? ⟨g, 0, none⟩ = some (.pointer (some ⟨nb, 0, none⟩))
  n0 : w.cell? ⟨nb, 0, none⟩ = some (.string s)
  n1 : w.cell? ⟨nb, 1, none⟩ = some v
  lt : sb < w.heap.size
  ltg : g < w.heap.size
  ltn : nb < w.heap.size

theorem newset (w : World) :
    Calls Tryz.prog 15 #[] w fun e w' => e = .returned (.pointer (some ⟨w.heap.size + 1, 0, none⟩)) ∧ SetEmpty w' (w.heap.size + 1) w.heap.size ∧ w'.heap.size = w.heap.size + 2 ∧ Below w.heap.size w w' := by
  have hmm := @run_makeMap Tryz.prog
  go_enter Tryz.func15, Tryz.ntmps15
  go_wp2_with fail
  go_ret
  have e : w.heap.size + 1 = (w.alloc (.map #[] 0)).heap.size := by simp
  have hc : ∀ o C t, ((w.alloc (.map #[] 0)).alloc (.cells C t)).cell? ⟨w.heap.size + 1, o, none⟩ = C[o]? := fun o C t => by rw [e]; exact World.cell?_alloc_new _ _ _ _
  refine ⟨rfl, ⟨(hc _ _ _).trans rfl, (hc _ _ _).trans rfl, (hc _ _ _).trans rfl, (hc _ _ _).trans rfl, fun o => by rw [e]; exact World.frozen?_alloc_new _ _ _ _, ?_, by omega, by simp, by simp; omega⟩, by simp, ((Below.refl _ _).alloc (Nat.le_refl _) _).alloc (by simp) _⟩
  rw [Below.heap_alloc _ _ _ (by simp)]
  show (w.heap.push (.map #[] 0))[w.heap.size]? = _
  exact Array.getElem?_push_size

def CtrPost (w : World) (sb mb : Nat) (s : ByteArray) (e : Ending) (w' : World) : Prop :=
  ∃ cb g nb c, e = .returned (.pointer (some ⟨cb, 0, none⟩)) ∧ w'.cell? ⟨cb, 0, none⟩ = some (.int .u64 0) ∧ w'.frozen? ⟨cb, 0, none⟩ = false ∧ w.heap.size ≤ cb ∧ cb < w'.heap.size ∧ cb ≠ g ∧ cb ≠ nb ∧ w.heap.size ≤ nb ∧ w.heap.size ≤ g ∧
    SetOne w' sb s (.iface 57 (.pointer (some ⟨cb, 0, none⟩))) g nb c ∧ Keeps (fun k => k = sb ∨ k = mb) w w'

theorem info_ptr : (Tryz.prog.info? 80).map (fun i => (i.zero, i.size, i.bytes)) = some (some (.pointer none), 1, 8) := by kernel_rfl

theorem assert_ctr (v : Value) (w : World) : (Instr.typeAssert (.iface 57 v) 87 57 true).run Tryz.prog w = .ok (.tuple #[v, .bool true]) w := by kernel_rfl

/-- Behind the append of the new metric. -/
theorem reg_done {W2 w1 : World} {sb mb nb : Nat} {om ro : Obj} {v' : Value} (c0 : W2.cell? ⟨sb, 0, none⟩ = some (.slice none 0 0)) (c2 : W2.cell? ⟨sb, 2, none⟩ = some (.bool false)) (c3 : W2.cell? ⟨sb, 3, none⟩ = some (.slice none 0 0))
    (fr : ∀ o, W2.frozen? ⟨sb, o, none⟩ = false) (ne : sb ≠ mb) (lt : sb < W2.heap.size) (hown : w1.ownsRow W2.heap.size 80 1 v' (0 + 1) ([] ++ [.pointer (some ⟨nb, 0, none⟩)])) (hgr : ((mapPut W2 mb om).alloc ro).grownBy w1 none) :
    w1.cell? ⟨sb, 0, none⟩ = some (.slice none 0 0) ∧ w1.frozen? ⟨sb, 0, none⟩ = false ∧ Keeps (fun k => k = mb) W2 w1 ∧ ∃ g c, v' = .slice (some ⟨g, 0, none⟩) 1 c ∧ W2.heap.size ≤ g ∧ g < w1.heap.size ∧
      (w1.setCell ⟨sb, 0, none⟩ v').cell? ⟨sb, 0, none⟩ = some v' ∧ (w1.setCell ⟨sb, 0, none⟩ v').cell? ⟨sb, 2, none⟩ = some (.bool false) ∧ (w1.setCell ⟨sb, 0, none⟩ v').cell? ⟨sb, 3, none⟩ = some (.slice none 0 0) ∧
      (w1.setCell ⟨sb, 0, none⟩ v').cell? ⟨g, 0, none⟩ = some (.pointer (some ⟨nb, 0, none⟩)) ∧ Keeps (fun k => k = sb ∨ k = mb) W2 (w1.setCell ⟨sb, 0, none⟩ v') := by
  obtain ⟨g, c, rfl, hg1, hg2, hg3⟩ := own_form hown (by omega)
  have hz : ((mapPut W2 mb om).alloc ro).heap.size = W2.heap.size + 1 := by rw [World.size_alloc, mapPut_size]
  have hz1 := hgr.size
  have hb : ∀ k, k < W2.heap.size → k ≠ mb → w1.heap[k]? = W2.heap[k]? := fun k hk hn => by
    rw [hgr.block k (by omega) (by simp), Below.heap_alloc _ _ _ (by rw [mapPut_size]; exact hk), mapPut_heap _ _ _ _ hn]
  have hs := hb sb lt ne
  have cs : ∀ o, w1.cell? ⟨sb, o, none⟩ = W2.cell? ⟨sb, o, none⟩ := fun o => World.cell?_of_block (a := ⟨sb, o, none⟩) hs
  have d0 := (cs 0).trans c0
  refine ⟨d0, (World.frozen?_of_block (a := ⟨sb, 0, none⟩) hs).trans (fr 0), ⟨hgr.os, hgr.tape, hgr.output, by omega, fun k hk hn => hb k hk hn⟩, g, c, rfl, hg1, hg2, ?_, ?_, ?_, ?_, ⟨hgr.os, hgr.tape, hgr.output, by rw [cs_size]; omega, fun k hk hn => ?_⟩⟩
  · exact cs_eq _ _ _ _ (by rw [d0]; rfl)
  · rw [cs_ne _ _ _ _ _ _ (.inr (by omega))]; exact (cs 2).trans c2
  · rw [cs_ne _ _ _ _ _ _ (.inr (by omega))]; exact (cs 3).trans c3
  · rw [cs_ne _ _ _ _ _ _ (.inl (by omega))]; exact hg3 0 _ rfl
  · rw [cs_heap _ _ _ _ (fun e => hn (.inl e))]
    exact hb k hk (fun e => hn (.inr e))

set_option maxHeartbeats 1600000 in
theorem ctr_any (sb mb : Nat) (s : ByteArray) (w : World) (h : SetEmpty w sb mb)
    (hv : ∀ w, Calls Tryz.prog 37 #[.string s] w fun e w' => e = .returned .nilIface ∧ w = w') :
    Calls Tryz.prog 25 #[.pointer (some ⟨sb, 0, none⟩), .string s] w (CtrPost w sb mb s) := by
  obtain ⟨c0, c1, c2, c3, fr, mp, ne, lt, ltm⟩ := h
  have hlk := run_lookup_empty s mb false w mp
  have hlk2 := fun o1 o2 => run_lookup_empty s mb false ((w.alloc o1).alloc o2) (by rw [Below.heap_alloc _ _ _ (by simp; omega), Below.heap_alloc _ _ _ ltm]; exact mp)
  have hup : ∀ o1 o2 v, (Instr.mapUpdate 60 (.map (some mb)) (.string s) v).run Tryz.prog ((w.alloc o1).alloc o2) = .ok () (mapPut ((w.alloc o1).alloc o2) mb (.map #[{ key := .string s, val := v, born := 0 }] 1)) := fun o1 o2 v => run_mapUpdate_first (P := Tryz.prog) ((w.alloc o1).alloc o2) 60 9 80 mb 0 s v Tryz.underlying60 Tryz.underlying9 (by rw [Below.heap_alloc _ _ _ (by simp; omega), Below.heap_alloc _ _ _ ltm]; exact mp)
  have hblk : ∀ o1 o2 o3, (mapPut ((w.alloc o1).alloc o2) mb o3).heap[sb]? = w.heap[sb]? := fun o1 o2 o3 => by rw [mapPut_heap _ _ _ _ ne, Below.heap_alloc _ _ _ (by simp; omega), Below.heap_alloc _ _ _ lt]
  have m0 : ∀ o1 o2 o3, (mapPut ((w.alloc o1).alloc o2) mb o3).cell? ⟨sb, 0, none⟩ = some (.slice none 0 0) := fun o1 o2 o3 => (World.cell?_of_block (a := ⟨sb, 0, none⟩) (hblk o1 o2 o3)).trans c0
  have mf : ∀ o1 o2 o3, (mapPut ((w.alloc o1).alloc o2) mb o3).frozen? ⟨sb, 0, none⟩ = false := fun o1 o2 o3 => (World.frozen?_of_block (a := ⟨sb, 0, none⟩) (hblk o1 o2 o3)).trans (fr 0)
  obtain ⟨i0, hi, hz0, hz1, hz2⟩ := info_parts info_ptr
  have HM := Lib.hid mp
  clear mp
  go_enter Tryz.func25, Tryz.ntmps25
  go_wp2_with (first
    | (go_at_call 37; refine (hv _).mono ?_; rintro e w' ⟨rfl, rfl⟩)
    | (at_builtin; refine wpList_append_own _ rfl _ _ 61 rfl (w.heap.size + 2) 80 i0 (.pointer none) 1 8 Tryz.underlying61 hi hz0 hz1 hz2 rfl (by decide) _ _ _ rfl (World.ownsRow_nil _ (w.heap.size + 2) _ _) ⟨_, 0, none⟩ 1 1 [.pointer (some ⟨w.heap.size + 1, 0, none⟩)] rfl rfl (one_new _ _ _) ?c2 ?c3 ?c4 ?c5 ?_))
  case c2 => simp [Value.oneCell']
  case c3 => unfold maxLen; omega
  case c4 => omega
  case c5 => simp [mapPut_size]
  intro v' w1 hown hgr _
  obtain ⟨W2, hW2⟩ : ∃ W2, W2 = ((w.alloc (.cells #[.int .u64 0] 85)).alloc (.cells #[.string s, .iface 57 (.pointer (some ⟨w.heap.size, 0, none⟩)), .bool false] 89)) := ⟨_, rfl⟩
  rw [← hW2] at hgr
  have hz2 : W2.heap.size = w.heap.size + 2 := by rw [hW2]; simp
  have hb2 : Below w.heap.size w W2 := by rw [hW2]; exact ((Below.refl _ _).alloc (Nat.le_refl _) _).alloc (by simp) _
  have cc : W2.cell? ⟨w.heap.size, 0, none⟩ = some (.int .u64 0) := by rw [hW2, World.cell?_alloc_lt _ _ _ (by simp)]; exact (World.cell?_alloc_new _ _ _ _).trans rfl
  have cf : W2.frozen? ⟨w.heap.size, 0, none⟩ = false := by rw [hW2]; exact (World.frozen?_of_block (a := ⟨w.heap.size, 0, none⟩) (Below.heap_alloc _ _ _ (by simp))).trans (World.frozen?_alloc_new _ _ _ _)
  have en : w.heap.size + 1 = (w.alloc (.cells #[.int .u64 0] 85)).heap.size := by simp
  have cn : ∀ o, W2.cell? ⟨w.heap.size + 1, o, none⟩ = (#[.string s, .iface 57 (.pointer (some ⟨w.heap.size, 0, none⟩)), .bool false] : Array Value)[o]? := fun o => by rw [hW2, en]; exact World.cell?_alloc_new _ _ _ _
  have cn0 := (cn 0).trans rfl
  have cn1 := (cn 1).trans rfl
  clear hW2 cn en
  rw [← hz2] at hown
  have hbs := hb2.block sb lt
  have bs : ∀ o, W2.cell? ⟨sb, o, none⟩ = w.cell? ⟨sb, o, none⟩ := fun o => World.cell?_of_block (a := ⟨sb, o, none⟩) hbs
  obtain ⟨r1, r2, r3, g, c, rfl, r4, r5, r6, r7, r8, r9, r10⟩ := reg_done ((bs 0).trans c0) ((bs 2).trans c2) ((bs 3).trans c3) (fun o => (World.frozen?_of_block (a := ⟨sb, o, none⟩) hbs).trans (fr o)) ne (by omega) hown hgr
  have q1 : (w1.setCell ⟨sb, 0, none⟩ (.slice (some ⟨g, 0, none⟩) 1 c)).cell? ⟨w.heap.size + 1, 1, none⟩ = some (.iface 57 (.pointer (some ⟨w.heap.size, 0, none⟩))) := (r10.cell (p := ⟨w.heap.size + 1, 1, none⟩) (by show w.heap.size + 1 < _; omega) (by show ¬ (w.heap.size + 1 = sb ∨ w.heap.size + 1 = mb); omega)).trans cn1
  have P1 : Hid (CtrPost w sb mb s (.returned (.pointer (some ⟨w.heap.size, 0, none⟩))) (w1.setCell ⟨sb, 0, none⟩ (.slice (some ⟨g, 0, none⟩) 1 c))) := Lib.hid (by
    have hzz : (w1.setCell ⟨sb, 0, none⟩ (.slice (some ⟨g, 0, none⟩) 1 c)).heap.size = w1.heap.size := cs_size _ _ _
    refine ⟨w.heap.size, g, w.heap.size + 1, c, rfl, ?_, ?_, Nat.le_refl _, by omega, by omega, by omega, by omega, by omega, ⟨r6, r7, r8, r9, ?_, q1, by omega, by omega, by omega⟩, ?_⟩
    · exact (r10.cell (p := ⟨w.heap.size, 0, none⟩) (by show w.heap.size < _; omega) (by show ¬ (w.heap.size = sb ∨ w.heap.size = mb); omega)).trans cc
    · exact (r10.frozen (p := ⟨w.heap.size, 0, none⟩) (by show w.heap.size < _; omega) (by show ¬ (w.heap.size = sb ∨ w.heap.size = mb); omega)).trans cf
    · exact (r10.cell (p := ⟨w.heap.size + 1, 0, none⟩) (by show w.heap.size + 1 < _; omega) (by show ¬ (w.heap.size + 1 = sb ∨ w.heap.size + 1 = mb); omega)).trans cn0
    · exact (Keeps.of_below hb2).trans r10 (fun _ _ h => h) (fun _ _ h => h))
  have has := assert_ctr
  clear r10 r9 r8 r7 r6 r3 hown hgr hbs bs cn0 cn1 cc cf hb2 hup hlk hlk2 hblk m0 mf c0 c1 c2 c3 fr
  go_wp2_with fail
  go_ret
  exact P1.out
end Go.Proofs.YthggdkpikjekmaaGreatRDoor
