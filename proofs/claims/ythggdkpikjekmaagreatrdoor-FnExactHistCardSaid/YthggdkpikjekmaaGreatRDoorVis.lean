/- VisitNonZeroBuckets over any visitor. -/
import Derived.Test.YthggdkpikjekmaaGreatRDoorRng
import Derived.Test.YthggdkpikjekmaaGreatRDoorFill
namespace Go.Proofs.YthggdkpikjekmaaGreatRDoor
open Go.RowKit WholeFloats
set_option maxRecDepth 100000
set_option linter.unusedVariables false

abbrev Vis := List (List UInt8 × Nat)

def visO (ct : Nat → Nat) (d o : Nat) : Vis := (List.range o).filterMap fun j => if 0 < ct (18 * d + j) then some (rngL (18 * d + j), ct (18 * d + j)) else none
def visL (lo : Nat) : Vis := if 0 < lo then [(lowL, lo)] else []
def visD (lo : Nat) (ct : Nat → Nat) (d : Nat) : Vis := visL lo ++ (List.range d).flatMap fun i => visO ct i 18

theorem visO_zero (ct : Nat → Nat) (d : Nat) : visO ct d 0 = [] := rfl
theorem visO_succ (ct : Nat → Nat) (d o : Nat) : visO ct d (o + 1) = if 0 < ct (18 * d + o) then visO ct d o ++ [(rngL (18 * d + o), ct (18 * d + o))] else visO ct d o := by
  unfold visO
  rw [List.range_succ, List.filterMap_append]
  by_cases h : 0 < ct (18 * d + o) <;> simp [h]
theorem visD_succ (lo : Nat) (ct : Nat → Nat) (d : Nat) : visD lo ct (d + 1) = visD lo ct d ++ visO ct d 18 := by
  unfold visD
  rw [List.range_succ, List.flatMap_append, List.append_assoc]
  simp
theorem visD_zero (lo : Nat) (ct : Nat → Nat) : visD lo ct 0 = visL lo := by simp [visD]
theorem visO_none (ct : Nat → Nat) (d : Nat) : ∀ o, (∀ j, j < o → ct (18 * d + j) = 0) → visO ct d o = []
  | 0, _ => rfl
  | o + 1, h => by
    rw [visO_succ, if_neg (by have := h o (by omega); omega)]
    exact visO_none ct d o fun j hj => h j (by omega)

theorem visO_len (ct : Nat → Nat) (d : Nat) : ∀ o, (visO ct d o).length ≤ o
  | 0 => Nat.le_refl _
  | o + 1 => by
    have := visO_len ct d o
    rw [visO_succ]
    split
    · rw [List.length_append]; simp; omega
    · omega
theorem visD_len (lo : Nat) (ct : Nat → Nat) : ∀ d, (visD lo ct d).length ≤ 18 * d + 1
  | 0 => by rw [visD_zero, visL]; split <;> simp
  | d + 1 => by
    have := visD_len lo ct d
    have := visO_len ct d 18
    rw [visD_succ, List.length_append]
    omega

/-- What VisitNonZeroBuckets asks of the function that it calls. -/
structure Visitor (g : Nat) (cap : Array Value) (b : Nat) (pt : Nat → Option Nat) (lo : Nat) (ct : Nat → Nat) (sm : Nat) (I : Vis → World → Prop) : Prop where
  enter : ∀ args w, (callFunc g args).run Tryz.prog w = .ok (.enter g args) w
  call : ∀ l w (s : List UInt8) (n : Nat), I l w → l.length ≤ 600 → s.length ≤ 50 → 1 ≤ n → n ≤ 99 → Calls Tryz.prog g (#[.string ⟨s.toArray⟩, .int .u64 (n : Int)] ++ cap) w (fun e w' => e = .returned (.tuple #[]) ∧ I (l ++ [(s, n)]) w')
  still : ∀ l w w', I l w → Below w.heap.size w w' → I l w'
  hist : ∀ l w, I l w → HistAt w b pt lo ct sm
  tabs : ∀ l w, I l w → Tabs w

set_option maxHeartbeats 1600000 in
theorem visit_any (g : Nat) (cap : Array Value) (b : Nat) (pt : Nat → Option Nat) (lo : Nat) (ct : Nat → Nat) (sm : Nat) (I : Vis → World → Prop) (hV : Visitor g cap b pt lo ct sm I)
    (hlo : lo ≤ 99) (hct : ∀ N, ct N ≤ 99) (w : World) (hI : I [] w) :
    Calls Tryz.prog 12 #[.pointer (some ⟨b, 0, none⟩), .func (.func g) #[] cap] w fun e w' => e = .returned (.tuple #[]) ∧ I (visD lo ct 27) w' := by
  have eg := hV.enter
  have HV := Lib.hid hV
  have hl := (hV.hist _ _ hI).lower
  have HI := Lib.hid hI
  have HR := Lib.hid range_any
  have HC := Lib.hid hct
  clear hct hV hI
  go_enter Tryz.func12, Tryz.ntmps12
  have hz : Hid (∃ w1, I (visL lo) w1 → True) := Lib.hid ⟨w, fun _ => trivial⟩
  by_cases hl0 : 0 < lo
  · have hlt : (0 : Int) < (lo : Int) := by omega
    have HL := Lib.hid lower_any
    have hbl : b < w.heap.size := (HV.out.hist _ _ HI.out).lt
    have HI1 : Hid (I [] w.drew) := Lib.hid (HV.out.still _ _ _ HI.out ((Below.refl _ _).drew))
    go_wp2_with fail
    go_region_with (first
      | (go_at_call 22; refine (HL.out _ (HV.out.tabs _ _ HI1.out)).mono ?_; rintro e w1 ⟨rfl, hb1⟩; have hl1 : w1.cell? ⟨b, 27, none⟩ = some (.int .u64 lo) := (hb1.cell (p := ⟨b, 27, none⟩) (by exact hbl)).trans hl; have hv1 := HV.out.call _ _ lowL lo (HV.out.still _ _ _ HI1.out hb1) (Nat.zero_le _) lowL_len hl0 hlo)
      | (go_at_fn g; refine hv1.mono ?_; rintro e w2 ⟨rfl, hI2⟩))
    go_goals
    all_goals
      have HI2 : Hid (I (visD lo ct 0) w2) := Lib.hid (by rw [visD_zero, visL, if_pos hl0]; exact hI2)
      clear hI2 hv1 hb1 hl1 hlt hz HI HI1 hl
      go_wp2_with fail
      go_loopw [27] (fun x wr => ∃ d : Nat, d ≤ 27 ∧ x = .int .i64 d ∧ I (visD lo ct d) wr) (fun x _ => 27 - (RowKit.intOf x).toNat)
      case atStart => exact ⟨0, Nat.zero_le _, rfl, HI2.out⟩
      case round =>
        obtain ⟨d, hd, rfl, hI⟩ := hrel
        by_cases hlt : d < 27
        · have hh := HV.out.hist _ _ hI
          have hp := hh.ptr d hlt
          have hdi : (d : Int) < 27 := by omega
          cases hg : pt d with
          | none =>
            rw [hg] at hp
            have hI3 : I (visD lo ct (d + 1)) wr := by rw [visD_succ, visO_none ct d 18 (hh.nil d hlt hg), List.append_nil]; exact hI
            have HI3 := Lib.hid hI3
            clear hI3 hI hh
            go_wp2_with fail
            go_roundw
            case rel => exact ⟨d + 1, by omega, by go_num, HI3.out⟩
            case measure => simp [RowKit.intOf]; omega
          | some gb =>
            rw [hg] at hp
            obtain ⟨hne, hgl, hgf, hgc⟩ := hh.cell d hlt gb hg
            have HI4 := Lib.hid hI
            clear hI hh hgf hgc
            go_wp2_with fail
            go_loopw [38] (fun y wr2 => ∃ o : Nat, o ≤ 18 ∧ y = .int .i64 o ∧ I (visD lo ct d ++ visO ct d o) wr2) (fun y _ => 18 - (RowKit.intOf y).toNat)
            case atStart => exact ⟨0, Nat.zero_le _, rfl, by rw [visO_zero, List.append_nil]; exact HI4.out⟩
            case round =>
              obtain ⟨o, ho, rfl, hI5⟩ := hrel
              by_cases hlt2 : o < 18
              · have hcell := ((HV.out.hist _ _ hI5).cell d hlt gb hg).2.2.2 o hlt2
                have hgf := ((HV.out.hist _ _ hI5).cell d hlt gb hg).2.2.1
                have hoi : (o : Int) < 18 := by omega
                have HI5 := Lib.hid hI5
                clear hI5
                by_cases hc0 : 0 < ct (18 * d + o)
                · have hc1 := HC.out (18 * d + o)
                  have hr := HR.out (18 * d + o) (by omega)
                  have hen : Hid (((d : Int) * 18 + (o : Int)) = ((18 * d + o : Nat) : Int)) := Lib.hid (by omega)
                  have HI6 : Hid (∀ w1, I (visD lo ct d ++ visO ct d o ++ [(rngL (18 * d + o), ct (18 * d + o))]) w1 → I (visD lo ct d ++ visO ct d (o + 1)) w1) := Lib.hid fun w1 h => by rw [visO_succ, if_pos hc0, ← List.append_assoc]; exact h
                  generalize ct (18 * d + o) = n at hcell hc0 hc1 HI6
                  have hn : (0 : Int) < (n : Int) := by omega
                  go_wp2_with fail
                  rw [hen.out]
                  refine (HR.out (18 * d + o) (by omega) wr (HV.out.tabs _ _ HI5.out)).mono ?_
                  rintro e w1 ⟨rfl, hb1⟩
                  have hv1 := HV.out.call _ _ (rngL (18 * d + o)) n (HV.out.still _ _ _ HI5.out hb1) (by have := visD_len lo ct d; have := visO_len ct d o; rw [List.length_append]; omega) (rngL_len _) hc0 hc1
                  clear hb1
                  go_wp2_with (go_at_fn g; refine hv1.mono ?_; rintro e w2 ⟨rfl, hI2⟩)
                  have HI7 := Lib.hid (HI6.out w2 hI2)
                  clear hI2 hv1
                  go_roundw
                  case rel => exact ⟨o + 1, by omega, by go_num, HI7.out⟩
                  case measure => simp [RowKit.intOf]; omega
                · have HI6 : Hid (I (visD lo ct d ++ visO ct d (o + 1)) wr) := Lib.hid (by rw [visO_succ, if_neg hc0]; exact HI5.out)
                  have hn0 : ct (18 * d + o) = 0 := by omega
                  rw [hn0] at hcell
                  go_wp2_with fail
                  go_roundw
                  case rel => exact ⟨o + 1, by omega, by go_num, HI6.out⟩
                  case measure => simp [RowKit.intOf]; omega
              · obtain rfl : o = 18 := by omega
                have HI6 : Hid (I (visD lo ct (d + 1)) wr) := Lib.hid (by rw [visD_succ]; exact hI5)
                clear hI5
                go_wp2_with fail
                go_roundw
                case rel => exact ⟨d + 1, by omega, by go_num, HI6.out⟩
                case measure => simp [RowKit.intOf]; omega
        · obtain rfl : d = 27 := by omega
          have hup := (HV.out.hist _ _ hI).upper
          have HI6 := Lib.hid hI
          clear hI
          go_wp2_with fail
          go_end0
          exact ⟨rfl, HI6.out⟩
  · have hlt : ¬ (0 : Int) < (lo : Int) := by omega
    have HI2 : Hid (I (visD lo ct 0) w) := Lib.hid (by rw [visD_zero, visL, if_neg hl0]; exact HI.out)
    clear hz
    go_wp2_with fail
    go_loopw [27] (fun x wr => ∃ d : Nat, d ≤ 27 ∧ x = .int .i64 d ∧ I (visD lo ct d) wr) (fun x _ => 27 - (RowKit.intOf x).toNat)
    case atStart => exact ⟨0, Nat.zero_le _, rfl, HI2.out⟩
    case round =>
      obtain ⟨d, hd, rfl, hI⟩ := hrel
      by_cases hlt : d < 27
      · have hh := HV.out.hist _ _ hI
        have hp := hh.ptr d hlt
        have hdi : (d : Int) < 27 := by omega
        cases hg : pt d with
        | none =>
          rw [hg] at hp
          have hI3 : I (visD lo ct (d + 1)) wr := by rw [visD_succ, visO_none ct d 18 (hh.nil d hlt hg), List.append_nil]; exact hI
          have HI3 := Lib.hid hI3
          clear hI3 hI hh
          go_wp2_with fail
          go_roundw
          case rel => exact ⟨d + 1, by omega, by go_num, HI3.out⟩
          case measure => simp [RowKit.intOf]; omega
        | some gb =>
          rw [hg] at hp
          obtain ⟨hne, hgl, hgf, hgc⟩ := hh.cell d hlt gb hg
          have HI4 := Lib.hid hI
          clear hI hh hgf hgc
          go_wp2_with fail
          go_loopw [38] (fun y wr2 => ∃ o : Nat, o ≤ 18 ∧ y = .int .i64 o ∧ I (visD lo ct d ++ visO ct d o) wr2) (fun y _ => 18 - (RowKit.intOf y).toNat)
          case atStart => exact ⟨0, Nat.zero_le _, rfl, by rw [visO_zero, List.append_nil]; exact HI4.out⟩
          case round =>
            obtain ⟨o, ho, rfl, hI5⟩ := hrel
            by_cases hlt2 : o < 18
            · have hcell := ((HV.out.hist _ _ hI5).cell d hlt gb hg).2.2.2 o hlt2
              have hgf := ((HV.out.hist _ _ hI5).cell d hlt gb hg).2.2.1
              have hoi : (o : Int) < 18 := by omega
              have HI5 := Lib.hid hI5
              clear hI5
              by_cases hc0 : 0 < ct (18 * d + o)
              · have hc1 := HC.out (18 * d + o)
                have hr := HR.out (18 * d + o) (by omega)
                have hen : Hid (((d : Int) * 18 + (o : Int)) = ((18 * d + o : Nat) : Int)) := Lib.hid (by omega)
                have HI6 : Hid (∀ w1, I (visD lo ct d ++ visO ct d o ++ [(rngL (18 * d + o), ct (18 * d + o))]) w1 → I (visD lo ct d ++ visO ct d (o + 1)) w1) := Lib.hid fun w1 h => by rw [visO_succ, if_pos hc0, ← List.append_assoc]; exact h
                generalize ct (18 * d + o) = n at hcell hc0 hc1 HI6
                have hn : (0 : Int) < (n : Int) := by omega
                go_wp2_with fail
                rw [hen.out]
                refine (HR.out (18 * d + o) (by omega) wr (HV.out.tabs _ _ HI5.out)).mono ?_
                rintro e w1 ⟨rfl, hb1⟩
                have hv1 := HV.out.call _ _ (rngL (18 * d + o)) n (HV.out.still _ _ _ HI5.out hb1) (by have := visD_len lo ct d; have := visO_len ct d o; rw [List.length_append]; omega) (rngL_len _) hc0 hc1
                clear hb1
                go_wp2_with (go_at_fn g; refine hv1.mono ?_; rintro e w2 ⟨rfl, hI2⟩)
                have HI7 := Lib.hid (HI6.out w2 hI2)
                clear hI2 hv1
                go_roundw
                case rel => exact ⟨o + 1, by omega, by go_num, HI7.out⟩
                case measure => simp [RowKit.intOf]; omega
              · have HI6 : Hid (I (visD lo ct d ++ visO ct d (o + 1)) wr) := Lib.hid (by rw [visO_succ, if_neg hc0]; exact HI5.out)
                have hn0 : ct (18 * d + o) = 0 := by omega
                rw [hn0] at hcell
                go_wp2_with fail
                go_roundw
                case rel => exact ⟨o + 1, by omega, by go_num, HI6.out⟩
                case measure => simp [RowKit.intOf]; omega
            · obtain rfl : o = 18 := by omega
              have HI6 : Hid (I (visD lo ct (d + 1)) wr) := Lib.hid (by rw [visD_succ]; exact hI5)
              clear hI5
              go_wp2_with fail
              go_roundw
              case rel => exact ⟨d + 1, by omega, by go_num, HI6.out⟩
              case measure => simp [RowKit.intOf]; omega
      · obtain rfl : d = 27 := by omega
        have hup := (HV.out.hist _ _ hI).upper
        have HI6 := Lib.hid hI
        clear hI
        go_wp2_with fail
        go_end0
        exact ⟨rfl, HI6.out⟩
end Go.Proofs.YthggdkpikjekmaaGreatRDoor
