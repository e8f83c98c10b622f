/- spec.Values: whole values told by bytes. -/
import Derived.Test.YthggdkpikjekmaaGreatRDoorFill
import Derived.Lib.Hide
namespace Go.Proofs.YthggdkpikjekmaaGreatRDoor
open Go.RowKit WholeFloats
set_option maxRecDepth 100000

/-- The first m values that bytes tell: each a byte times a power of ten. -/
def vals (ds : List Nat) (m : Nat) : List Nat := (List.range m).map fun i => ds.getD (2 * i) 0 * 10 ^ (ds.getD (2 * i + 1) 0 % 8)
def valsN (ds : List Nat) : Nat := min 30 (ds.length / 2)
def valsOf (ds : List Nat) : List Nat := vals ds (valsN ds)
def fsV (ns : List Nat) : List Value := ns.map fun n => .float .f64 (wf n)

theorem vals_length (ds : List Nat) (m : Nat) : (vals ds m).length = m := by simp [vals]
theorem vals_succ (ds : List Nat) (m : Nat) : vals ds (m + 1) = vals ds m ++ [ds.getD (2 * m) 0 * 10 ^ (ds.getD (2 * m + 1) 0 % 8)] := by
  simp [vals, List.range_succ]
theorem fsV_snoc (ns : List Nat) (n : Nat) : fsV (ns ++ [n]) = fsV ns ++ [.float .f64 (wf n)] := by simp [fsV]
theorem fsV_length (ns : List Nat) : (fsV ns).length = ns.length := by simp [fsV]

theorem info_float : (Tryz.prog.info? 36).map (fun i => (i.zero, i.size, i.bytes)) = some (some (.float .f64 0), 1, 8) := by kernel_rfl
theorem wf_ten : wf 10 = 4621819117588971520 := by decide

theorem pow_small (d e : Nat) (hd : d ≤ 255) (he : e ≤ 8) : d * 10 ^ e < 2 ^ 53 := by
  have h1 : 10 ^ e ≤ 10 ^ 8 := Nat.pow_le_pow_right (by omega) he
  have h2 : d * 10 ^ e ≤ 255 * 10 ^ 8 := Nat.mul_le_mul hd h1
  have h3 : 255 * 10 ^ 8 < 2 ^ 53 := by decide
  omega

theorem mul_ten (d j : Nat) (hd : d ≤ 255) (hj : j + 1 ≤ 8) : fMul (wf (d * 10 ^ j)) 4621819117588971520 = some (wf (d * 10 ^ (j + 1))) := by
  have h := mul_wf (d * 10 ^ j) 10 (pow_small d j hd (by omega)) (by decide) (by rw [Nat.mul_assoc, ← Nat.pow_succ]; exact pow_small d (j + 1) hd hj)
  rw [wf_ten, Nat.mul_assoc, ← Nat.pow_succ] at h
  exact h

theorem own_form {w : World} {base n : Nat} {e : TypeId} {v : Value} {xs : List Value} (h : w.ownsRow base e 1 v n xs) (hn : 0 < n) :
    ∃ g c, v = .slice (some ⟨g, 0, none⟩) n c ∧ base ≤ g ∧ g < w.heap.size ∧ ∀ j u, xs[j]? = some u → w.cell? ⟨g, j, none⟩ = some u := by
  rcases h.2 with ⟨_, h0⟩ | ⟨g, cap, cur, hv, hb, hh, _⟩
  · omega
  · subst hv
    refine ⟨g, cap, rfl, hb, (h.lt g rfl).2, fun j u hu => ?_⟩
    have := h.cells (g := g) rfl j u hu
    rwa [Addr.add_lit, Nat.zero_add] at this

/-- The state of the loop behind m values. -/
def ValsRel (w : World) (ds : List Nat) (m : Nat) (v : Value) (w' : World) : Prop :=
  (∃ A c, v = .slice A m c) ∧ w'.ownsRow w.heap.size 36 1 v m (fsV (vals ds m)) ∧ Below w.heap.size w w'

def ValsPost (w : World) (ds : List Nat) (e : Ending) (w' : World) : Prop := ∃ A c, e = .returned (.slice A (valsN ds) c) ∧ w'.ownsRow w.heap.size 36 1 (.slice A (valsN ds) c) (valsN ds) (fsV (valsOf ds)) ∧ Below w.heap.size w w'

set_option maxHeartbeats 1600000 in
theorem Values_any (a o cap : Nat) (ds : List Nat) (w : World) (hb : ∀ d ∈ ds, d ≤ 255) (hlen : ds.length ≤ 2147483647) (ha : a < w.heap.size)
    (hc : ∀ j, j < ds.length → w.cell? ⟨a, o + j, none⟩ = some (.int .u8 (ds.getD j 0 : Nat))) :
    Calls Tryz.prog 5 #[.slice (some ⟨a, o, none⟩) ds.length cap] w (ValsPost w ds) := by
  obtain ⟨i0, hi, hz0, hz1, hz2⟩ := info_parts info_float
  go_enter Tryz.func5, Tryz.ntmps5
  go_wp2_with fail
  go_loopw [3, 4] (fun v i wr => ∃ m : Nat, m ≤ 30 ∧ 2 * m ≤ ds.length + 1 ∧ m ≤ valsN ds ∧ i = .int .i64 ((2 * m : Nat) : Int) ∧ ValsRel w ds m v wr) (fun _ i _ => 60 - (intOf i).toNat)
  case atStart => exact ⟨0, by omega, by omega, by omega, rfl, ⟨none, 0, rfl⟩, World.ownsRow_nil _ _ _ _, Below.refl _ _⟩
  case round =>
    obtain ⟨m, hm, hm2, hmN, rfl, ⟨A, c, rfl⟩, hown, hnx⟩ := hrel
    by_cases hlt : 2 * m + 1 < ds.length ∧ m < 30
    · obtain ⟨h1, h2⟩ := hlt
      have hc0 : wr.cell? ⟨a, o + 2 * m, none⟩ = some (.int .u8 (ds.getD (2 * m) 0 : Nat)) := (hnx.cell (p := ⟨a, o + 2 * m, none⟩) ha).trans (hc (2 * m) (by omega))
      have hc1 : wr.cell? ⟨a, o + (2 * m + 1), none⟩ = some (.int .u8 (ds.getD (2 * m + 1) 0 : Nat)) := (hnx.cell (p := ⟨a, o + (2 * m + 1), none⟩) ha).trans (hc (2 * m + 1) (by omega))
      have hd : ds.getD (2 * m) 0 ≤ 255 := hb _ (by rw [List.getD_eq_getElem?_getD, List.getElem?_eq_getElem (show 2 * m < ds.length by omega)]; exact List.getElem_mem _)
      have hv := vals_succ ds m
      have HV := Lib.hid hv
      clear hv
      clear hc hb
      generalize ds.getD (2 * m) 0 = d at hc0 hd HV
      generalize ds.getD (2 * m + 1) 0 = e at hc1 HV
      go_wp2_with fail
      have he8 : e % 8 ≤ 7 := by omega
      go_loop [5, 29] (fun x y => ∃ j : Nat, j ≤ e % 8 ∧ y = .int .u8 j ∧ x = .float .f64 (wf (d * 10 ^ j))) (fun _ y => 8 - (intOf y).toNat)
      case atStart => exact ⟨0, Nat.zero_le _, rfl, by rw [Nat.pow_zero, Nat.mul_one]; rfl⟩
      case round =>
        obtain ⟨j, hj, rfl, rfl⟩ := hrel
        by_cases hje : j < e % 8
        · have hmul := fun w => run_float_arith (P := Tryz.prog) w _ 36 _ _ _ _ (mul_ten d j hd (by omega))
          go_wp2_with fail
          go_round
          case rel => exact ⟨j + 1, by omega, by go_num, rfl⟩
          case measure => simp [intOf]; omega
        · obtain rfl : j = e % 8 := by omega
          go_wp2_with (first
            | (at_builtin; refine wpList_append_own _ rfl _ _ 23 rfl w.heap.size 36 i0 (.float .f64 0) 1 8 Tryz.underlying23 hi hz0 hz1 hz2 rfl (by decide) _ _ _ rfl (hown.alloc _) ⟨wr.heap.size, 0, none⟩ 1 1 [.float .f64 (wf (d * 10 ^ (e % 8)))] rfl rfl ?c1 ?c2 ?c3 ?c4 ?c5 ?_))
          case c2 => rfl
          case c3 => unfold maxLen; omega
          case c4 => omega
          case c5 => have := hnx.size; simp; omega
          intro v' w1 hown' hgrow _
          have hstep : ∃ A' c', v' = .slice A' (m + 1) c' := by
            obtain ⟨g, cap', hv', _⟩ := own_form hown' (by omega)
            exact ⟨_, _, hv'⟩
          obtain ⟨A', c', rfl⟩ := hstep
          have hrel : ValsRel w ds (m + 1) (.slice A' (m + 1) c') w1 := by
            refine ⟨⟨A', c', rfl⟩, ?_, ?_⟩
            · rw [HV.out, fsV_snoc]
              exact hown'
            · refine (hnx.alloc hnx.size _).grown hgrow (by have := hnx.size; simp; omega) (fun k hk => ?_)
              exact (hown.lt k hk).1
          have hN1 : m + 1 ≤ valsN ds := by unfold valsN; omega
          clear hown' hgrow hown hnx
          go_wp2
          go_roundw
          case rel => exact ⟨m + 1, by omega, by omega, hN1, by go_num, hrel⟩
          case measure => simp [intOf]; omega
    · have hmm : m = valsN ds := by unfold valsN at hmN ⊢; omega
      clear hc hb
      by_cases h1 : 2 * m + 1 < ds.length
      · have h2 : ¬ m < 30 := fun h => hlt ⟨h1, h⟩
        clear hlt
        go_wp2_with fail
        go_ret
        subst hmm
        exact ⟨A, c, rfl, hown, hnx⟩
      · clear hlt
        go_wp2_with fail
        go_ret
        subst hmm
        exact ⟨A, c, rfl, hown, hnx⟩
end Go.Proofs.YthggdkpikjekmaaGreatRDoor
