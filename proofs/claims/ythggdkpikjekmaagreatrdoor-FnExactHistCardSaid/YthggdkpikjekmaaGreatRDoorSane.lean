/- impl.Page at ["a"], [3]; laws.sane. -/
import Derived.Test.YthggdkpikjekmaaGreatRDoorWp
namespace Go.Proofs.YthggdkpikjekmaaGreatRDoor
open Go.RowKit Go.Lib
set_option maxRecDepth 100000
set_option linter.unusedVariables false

theorem add_any (cb : Nat) (w : World) (h : w.cell? ⟨cb, 0, none⟩ = some (.int .u64 0)) (hf : w.frozen? ⟨cb, 0, none⟩ = false) :
    Calls Tryz.prog 26 #[.pointer (some ⟨cb, 0, none⟩), .int .i64 3] w fun e w' => e = .returned (.tuple #[]) ∧ w' = w.setCell ⟨cb, 0, none⟩ (.int .u64 3) := by
  go_enter Tryz.func26, Tryz.ntmps26
  go_wp2_with fail
  go_end0
  exact ⟨rfl, rfl⟩

theorem ctype_any (v : Value) (w : World) :
    Calls Tryz.prog 171 #[v] w fun e w' => e = .returned (.string ⟨#[99, 111, 117, 110, 116, 101, 114]⟩) ∧ w = w' := by
  go_enter Tryz.func171, Tryz.ntmps171
  go_wp2_with fail
  go_ret
  exact ⟨rfl, rfl⟩

theorem cget_any (cb : Nat) (n : Int) (w : World) (h : w.cell? ⟨cb, 0, none⟩ = some (.int .u64 n)) :
    Calls Tryz.prog 172 #[.pointer (some ⟨cb, 0, none⟩)] w fun e w' => e = .returned (.int .u64 n) ∧ w = w' := by
  go_enter Tryz.func172, Tryz.ntmps172
  go_wp2_with fail
  go_ret
  exact ⟨rfl, rfl⟩

theorem cmar_any (cb bb : Nat) (w : World) (h : w.cell? ⟨cb, 0, none⟩ = some (.int .u64 3)) (hw : Wr w bb (bb < ·) []) :
    Calls Tryz.prog 170 #[.pointer (some ⟨cb, 0, none⟩), .string ⟨#[97]⟩, .iface 71 (.pointer (some ⟨bb, 0, none⟩))] w fun e w' => e = .returned (.tuple #[]) ∧ MarPost w bb [97, 32, 51, 10] w' := by
  have hlt := hw.lt
  have HS := Lib.hid (ws_any bb (bb < ·) [] [97, 32, 51, 10] w hw (fun k hk => by omega) (by omega) (by decide) (by decide))
  have H3 : Hid (∀ w : World, Calls Tryz.prog 18 #[.int .u64 3, .int .i64 10] w fun e w' => e = .returned (.string ⟨#[51]⟩) ∧ w = w') := Lib.hid fun w => by
    have := fu_any 3 (by omega) w
    rw [Lib.decDigits_one (by omega)] at this
    exact this
  clear hw
  go_enter Tryz.func170, Tryz.ntmps170
  go_wp2_with (first
    | (go_at_call 172; refine (cget_any _ _ _ h).mono ?_; rintro e w' ⟨rfl, rfl⟩)
    | (go_at_call 18; refine (H3.out _).mono ?_; rintro e w' ⟨rfl, rfl⟩)
    | (go_at_call 62; refine HS.out.mono ?_; rintro e w1 ⟨rfl, h1, h2⟩))
  go_end0
  exact ⟨rfl, h1, h2, fun e => by cases e⟩

theorem ctr_metric (w : World) (cb : Nat) (h : w.cell? ⟨cb, 0, none⟩ = some (.int .u64 3)) (hlt : cb < w.heap.size) :
    Metric w 57 (.pointer (some ⟨cb, 0, none⟩)) 171 170 [97] [97] [99, 111, 117, 110, 116, 101, 114] [97, 32, 51, 10] :=
  ⟨fun w => by kernel_rfl, fun w => by kernel_rfl, enters_of Tryz.func171 (by kernel_rfl) rfl, enters_of Tryz.func170 (by kernel_rfl) rfl,
    fun w => ctype_any _ w, fun v hb hw _ => cmar_any cb _ v ((hb.cell (p := ⟨cb, 0, none⟩) hlt).trans h) hw⟩

theorem low_a : LowB [97] := ⟨by decide, by decide, by decide⟩

theorem SetEmpty.drew {w : World} {sb mb : Nat} (h : SetEmpty w sb mb) : SetEmpty w.drew sb mb := ⟨h.c0, h.c1, h.c2, h.c3, h.fr, h.mp, h.ne, h.lt, h.ltm⟩

theorem SetOne.below {w v : World} {sb : Nat} {s : ByteArray} {x : Value} {g nb c : Nat} (h : SetOne w sb s x g nb c) (hb : Below w.heap.size w v) : SetOne v sb s x g nb c :=
  ⟨(hb.cell (p := ⟨sb, 0, none⟩) h.lt).trans h.c0, (hb.cell (p := ⟨sb, 2, none⟩) h.lt).trans h.c2, (hb.cell (p := ⟨sb, 3, none⟩) h.lt).trans h.c3, (hb.cell (p := ⟨g, 0, none⟩) h.ltg).trans h.cg, (hb.cell (p := ⟨nb, 0, none⟩) h.ltn).trans h.n0, (hb.cell (p := ⟨nb, 1, none⟩) h.ltn).trans h.n1,
    Nat.lt_of_lt_of_le h.lt hb.size, Nat.lt_of_lt_of_le h.ltg hb.size, Nat.lt_of_lt_of_le h.ltn hb.size⟩

theorem page_end (w w1 w2 : World) (cb g nb c : Nat) (hz : w1.heap.size = w.heap.size + 2) (hb1 : Below w.heap.size w w1) (q2 : w2.cell? ⟨cb, 0, none⟩ = some (.int .u64 0)) (q4 : w1.heap.size ≤ cb) (q5 : cb < w2.heap.size) (q6 : cb ≠ g) (q7 : cb ≠ nb)
    (q9 : SetOne w2 (w.heap.size + 1) ⟨#[97]⟩ (.iface 57 (.pointer (some ⟨cb, 0, none⟩))) g nb c) (q10 : Keeps (fun k => k = w.heap.size + 1 ∨ k = w.heap.size) w1.drew w2) :
    Calls Tryz.prog 17 #[.pointer (some ⟨w.heap.size + 1, 0, none⟩)] (w2.setCell ⟨cb, 0, none⟩ (.int .u64 3)) fun e w' => e = .returned (.string ⟨#[97, 32, 51, 10]⟩) ∧ Below w.heap.size w w' := by
  have hsz : (w2.setCell ⟨cb, 0, none⟩ (.int .u64 3)).heap.size = w2.heap.size := cs_size _ _ _
  have hS : SetOne (w2.setCell ⟨cb, 0, none⟩ (.int .u64 3)) (w.heap.size + 1) ⟨#[97]⟩ (.iface 57 (.pointer (some ⟨cb, 0, none⟩))) g nb c :=
    ⟨(cs_ne _ _ _ _ _ _ (.inl (by omega))).trans q9.c0, (cs_ne _ _ _ _ _ _ (.inl (by omega))).trans q9.c2, (cs_ne _ _ _ _ _ _ (.inl (by omega))).trans q9.c3, (cs_ne _ _ _ _ _ _ (.inl q6)).trans q9.cg, (cs_ne _ _ _ _ _ _ (.inl q7)).trans q9.n0, (cs_ne _ _ _ _ _ _ (.inl q7)).trans q9.n1,
      by rw [hsz]; exact q9.lt, by rw [hsz]; exact q9.ltg, by rw [hsz]; exact q9.ltn⟩
  have hc : (w2.setCell ⟨cb, 0, none⟩ (.int .u64 3)).cell? ⟨cb, 0, none⟩ = some (.int .u64 3) := cs_eq _ _ _ _ (by rw [q2]; rfl)
  have hk2 : Below w.heap.size w1.drew w2 := q10.below_of (by show w.heap.size ≤ w1.heap.size; omega) (fun k hk => by omega)
  have hB : Below w.heap.size w (w2.setCell ⟨cb, 0, none⟩ (.int .u64 3)) := (hb1.drew.trans hk2).setCell (by show w.heap.size ≤ cb; omega) _
  refine (text_any _ _ [97, 32, 51, 10] (fun v hbv hzv hw => ?_)).mono (fun e w' h => ⟨h.1, hB.trans (h.2.mono hB.size)⟩)
  exact wp_any v _ _ _ _ _ _ [97] [97] _ [97, 32, 51, 10] g nb c (ctr_metric v cb ((hbv.cell (p := ⟨cb, 0, none⟩) (by show cb < _; rw [hsz]; exact q5)).trans hc) (by omega)) (hS.below hbv) (family_low [97] low_a) (by decide) hw (by decide)

theorem page_one (a b c d : Nat) (w : World) (ha : w.cell? ⟨a, 0, none⟩ = some (.string ⟨#[97]⟩)) (hb : w.cell? ⟨b, 0, none⟩ = some (.int .i64 3)) (hal : a < w.heap.size) (hbl : b < w.heap.size) :
    Calls Tryz.prog 14 #[.slice (some ⟨a, 0, none⟩) 1 c, .slice (some ⟨b, 0, none⟩) 1 d] w fun e w' => e = .returned (.string ⟨#[97, 32, 51, 10]⟩) ∧ Below w.heap.size w w' := by
  go_enter Tryz.func14, Tryz.ntmps14
  go_wp2_with (go_at_call 15; refine (newset _).mono ?_; rintro e w1 ⟨rfl, hs, hz, hb1⟩)
  have ta := (hb1.cell (p := ⟨a, 0, none⟩) hal).trans ha
  have tb := (hb1.cell (p := ⟨b, 0, none⟩) hbl).trans hb
  refine wp_loop_rounds 2 ?_
  rw [rounds_succ]
  go_wp2_with fail
  have HC := Lib.hid (ctr_any _ _ ⟨#[97]⟩ _ hs.drew (validM_low [97] low_a))
  have HB1 := Lib.hid hb1
  clear hs hb1
  go_region_with (first
    | (go_at_call 25; refine HC.out.mono ?_; rintro e w2 ⟨cb, g, nb, c2, rfl, q1, q2, q3, q4, q5, q6, q7, q8, q9, q10⟩; have tb2 : w2.cell? ⟨b, 0, none⟩ = some (.int .i64 3) := (q10.cell (p := ⟨b, 0, none⟩) (by show b < w1.heap.size; omega) (by show ¬ (b = w.heap.size + 1 ∨ b = w.heap.size); omega)).trans tb)
    | (go_at_call 26; refine (add_any cb _ q1 q2).mono ?_; rintro e w3 ⟨rfl, rfl⟩))
  all_goals
    have HE := Lib.hid (page_end w w1 w2 cb g nb c2 hz HB1.out q1 q3 q4 q5 q6 q9 q10)
    clear q1 q2 q3 q4 q5 q6 q7 q8 q9 q10 tb2
    go_wp2_with fail
    rw [rounds_succ]
    go_wp2_with fail
    refine HE.out.mono ?_
    rintro e w4 ⟨rfl, hb4⟩
    have HB4 := Lib.hid hb4
    clear hb4
    go_wp2_with fail
    go_ret
    exact ⟨rfl, HB4.out⟩

end Go.Proofs.YthggdkpikjekmaaGreatRDoor
