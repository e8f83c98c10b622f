/- fill: the values one by one. -/
import Derived.Test.YthggdkpikjekmaaGreatRDoorHist
namespace Go.Proofs.YthggdkpikjekmaaGreatRDoor
open Go.RowKit WholeFloats
set_option maxRecDepth 100000

/-- A value that the statements speak of: zero, or one whose bucket the code's arithmetic gives. -/
def Good (n : Nat) : Prop := n = 0 ∨ ∃ N, bucketO (wf n) = some N
def bk (n : Nat) : Nat := (bucketO (wf n)).getD 0

def loF (lo : Nat) (ns : List Nat) : Nat := lo + ns.countP (fun n => n == 0)
def ctF (ct : Nat → Nat) (ns : List Nat) : Nat → Nat := fun N => ct N + ns.countP (fun n => n != 0 && bk n == N)

theorem loF_nil (lo : Nat) : loF lo [] = lo := rfl
theorem ctF_nil (ct : Nat → Nat) : ctF ct [] = ct := rfl
theorem loF_snoc (lo : Nat) (ns : List Nat) (n : Nat) : loF lo (ns ++ [n]) = if n = 0 then loF lo ns + 1 else loF lo ns := by
  unfold loF
  rw [List.countP_append, List.countP_singleton]
  by_cases h : n = 0 <;> simp [h]
  omega
theorem ctF_snoc (ct : Nat → Nat) (ns : List Nat) (n : Nat) : ctF ct (ns ++ [n]) = if n = 0 then ctF ct ns else bump (ctF ct ns) (bk n) := by
  funext N
  unfold ctF
  rw [List.countP_append, List.countP_singleton]
  by_cases h : n = 0
  · simp [h]
  · rw [if_neg h]
    unfold bump
    by_cases hN : N = bk n
    · subst hN
      have e : (n != 0 && bk n == bk n) = true := by simp [h]
      rw [if_pos e, if_pos rfl]
      show _ = ct (bk n) + List.countP (fun n_1 => n_1 != 0 && bk n_1 == bk n) ns + 1
      omega
    · have e : (n != 0 && bk n == N) = false := by
        simp only [Bool.and_eq_false_iff, beq_eq_false_iff_ne]
        exact .inr (fun e => hN e.symm)
      rw [if_neg (by rw [e]; exact Bool.false_ne_true), if_neg hN]
      rfl
theorem loF_app (lo : Nat) (a b : List Nat) : loF (loF lo a) b = loF lo (a ++ b) := by
  unfold loF
  rw [List.countP_append]
  omega
theorem ctF_app (ct : Nat → Nat) (a b : List Nat) : ctF (ctF ct a) b = ctF ct (a ++ b) := by
  funext N
  unfold ctF
  rw [List.countP_append]
  omega
theorem loF_le (lo : Nat) (ns : List Nat) : loF lo ns ≤ lo + ns.length := by
  unfold loF
  have := List.countP_le_length (p := fun n : Nat => n == 0) (l := ns)
  omega
theorem ctF_le (ct : Nat → Nat) (ns : List Nat) (N : Nat) : ctF ct ns N ≤ ct N + ns.length := by
  unfold ctF
  have := List.countP_le_length (p := fun n : Nat => n != 0 && bk n == N) (l := ns)
  omega
theorem sum_take_le (ns : List Nat) (k : Nat) : (ns.take k).sum ≤ ns.sum := by
  have := List.sum_append (l₁ := ns.take k) (l₂ := ns.drop k)
  rw [List.take_append_drop] at this
  omega

/-- A slice of float64 at the head of a block. -/
def FsAt (w : World) (g : Nat) (ns : List Nat) : Prop := g < w.heap.size ∧ ∀ k, k < ns.length → w.cell? ⟨g, k, none⟩ = some (.float .f64 (wf (ns.getD k 0)))

theorem FsAt.keep {w w' : World} {g : Nat} {ns : List Nat} (h : FsAt w g ns) (hz : w.heap.size ≤ w'.heap.size) (hk : w'.heap[g]? = w.heap[g]?) : FsAt w' g ns :=
  ⟨Nat.lt_of_lt_of_le h.1 hz, fun k hk' => (World.cell?_of_block (a := ⟨g, k, none⟩) hk).trans (h.2 k hk')⟩

/-- What fill leaves. -/
def FillPost (w : World) (b : Nat) (pt : Nat → Option Nat) (lo : Nat) (ct : Nat → Nat) (sm : Nat) (e : Ending) (w' : World) : Prop :=
  e = .returned (.pointer (some ⟨b, 0, none⟩)) ∧ ∃ pt', HistAt w' b pt' lo ct sm ∧ Keeps (Own b pt) w w' ∧ ∀ k, Own b pt' k → Own b pt k ∨ w.heap.size ≤ k

/-- The state of fill's loop behind k values. -/
def FillRel (w : World) (b : Nat) (pt : Nat → Option Nat) (lo : Nat) (ct : Nat → Nat) (sm : Nat) (ns : List Nat) (k : Nat) (w' : World) : Prop :=
  ∃ pt', HistAt w' b pt' (loF lo (ns.take k)) (ctF ct (ns.take k)) (sm + (ns.take k).sum) ∧ Keeps (Own b pt) w w' ∧ ∀ k, Own b pt' k → Own b pt k ∨ w.heap.size ≤ k

theorem FillRel.step {w w1 w2 : World} {b : Nat} {pt : Nat → Option Nat} {lo : Nat} {ct : Nat → Nat} {sm : Nat} {ns : List Nat} {k : Nat} {pt' : Nat → Option Nat} {e : Ending} (hk : k < ns.length)
    (h2 : Keeps (Own b pt) w w1) (h3 : ∀ k, Own b pt' k → Own b pt k ∨ w.heap.size ≤ k)
    (hu : UpdPost w1 b pt' (if ns.getD k 0 = 0 then loF lo (ns.take k) + 1 else loF lo (ns.take k)) (if ns.getD k 0 = 0 then ctF ct (ns.take k) else bump (ctF ct (ns.take k)) ((bucketO (wf (ns.getD k 0))).getD 0)) (sm + (ns.take k).sum + ns.getD k 0) e w2) :
    e = .returned (.tuple #[]) ∧ FillRel w b pt lo ct sm ns (k + 1) w2 := by
  obtain ⟨he, pt2, u1, u2, u3⟩ := hu
  have ht : ns.take (k + 1) = ns.take k ++ [ns.getD k 0] := by
    rw [List.take_succ_eq_append_getElem hk, List.getD_eq_getElem?_getD, List.getElem?_eq_getElem hk]
    rfl
  refine ⟨he, pt2, ?_, ?_, ?_⟩
  · rw [ht, loF_snoc, ctF_snoc, List.sum_append, List.sum_singleton, ← Nat.add_assoc]
    exact u1
  · refine h2.trans u2 (fun x _ hx => hx) (fun x hx ho => ?_)
    rcases h3 x ho with h | h
    · exact h
    · omega
  · intro x hx
    rcases u3 x hx with h | h
    · exact h3 x h
    · exact .inr (Nat.le_trans h2.size h)

set_option maxHeartbeats 400000 in
theorem fill_some (b g c : Nat) (pt : Nat → Option Nat) (lo : Nat) (ct : Nat → Nat) (sm : Nat) (ns : List Nat) (w : World) (h : HistAt w b pt lo ct sm) (hl : ns.length ≤ 100) (h0 : 0 < ns.length)
    (hlo : lo ≤ 100) (hct : ∀ N, ct N ≤ 100) (hsm : sm + ns.sum < 2 ^ 53) (hgood : ∀ n ∈ ns, Good n) (hf : FsAt w g ns) (hg : ¬ Own b pt g) :
    Calls Tryz.prog 11 #[.pointer (some ⟨b, 0, none⟩), .slice (some ⟨g, 0, none⟩) ns.length c] w (FillPost w b pt (loF lo ns) (ctF ct ns) (sm + ns.sum)) := by
  go_enter Tryz.func11, Tryz.ntmps11
  go_wp2_with fail
  go_loopw [9] (fun i wr => ∃ k : Nat, k ≤ ns.length ∧ i = .int .i64 k ∧ FillRel w b pt lo ct sm ns k wr) (fun i _ => ns.length - (intOf i).toNat)
  case atStart => exact ⟨0, Nat.zero_le _, rfl, pt, h, Keeps.refl _ _, fun _ hx => .inl hx⟩
  case round =>
    obtain ⟨k, hk, rfl, pt', hh, hkeep, hown⟩ := hrel
    by_cases hlt : k < ns.length
    · have hfr : FsAt wr g ns := hf.keep hkeep.size (hkeep.block g hf.1 hg)
      have hcell := hfr.2 k hlt
      have hsum := sum_take_le ns (k + 1)
      have hgd : Good (ns.getD k 0) := hgood _ (by rw [List.getD_eq_getElem?_getD, List.getElem?_eq_getElem hlt]; exact List.getElem_mem hlt)
      have hs : sm + (ns.take k).sum + ns.getD k 0 < 2 ^ 53 := by
        have ht : ns.take (k + 1) = ns.take k ++ [ns.getD k 0] := by
          rw [List.take_succ_eq_append_getElem hlt, List.getD_eq_getElem?_getD, List.getElem?_eq_getElem hlt]
          rfl
        rw [ht, List.sum_append, List.sum_singleton] at hsum
        omega
      have hl1 : loF lo (ns.take k) ≤ 1000 := by
        have := loF_le lo (ns.take k)
        have : (ns.take k).length ≤ ns.length := by rw [List.length_take]; omega
        omega
      have hc1 : ∀ N, ctF ct (ns.take k) N ≤ 1000 := fun N => by
        have := ctF_le ct (ns.take k) N
        have : (ns.take k).length ≤ ns.length := by rw [List.length_take]; omega
        have := hct N
        omega
      have U := Update_any hh hl1 hc1 hs hgd
      have U2 := U.mono (fun e w2 hu => FillRel.step hlt hkeep hown hu)
      clear U hh hfr hf hsum hs hl1 hc1 hgd hgood hsm hct hlo hown hkeep h hg
      generalize ns.getD k 0 = n at hcell U2
      go_wp2_with (go_at_call 21; refine U2.mono ?_; rintro e w' ⟨rfl, hrel⟩)
      go_roundw
      case rel => exact ⟨k + 1, by omega, by go_num, hrel⟩
      case measure => simp [intOf]; omega
    · have hkl : k = ns.length := by omega
      subst hkl
      rw [List.take_length] at hh
      clear hf hgood hsm hct hlo hg h
      go_wp2_with fail
      go_ret
      exact ⟨rfl, pt', hh, hkeep, hown⟩

theorem fill_none (b c : Nat) (A : Option Addr) (pt : Nat → Option Nat) (lo : Nat) (ct : Nat → Nat) (sm : Nat) (w : World) (h : HistAt w b pt lo ct sm) :
    Calls Tryz.prog 11 #[.pointer (some ⟨b, 0, none⟩), .slice A 0 c] w (FillPost w b pt lo ct sm) := by
  go_enter Tryz.func11, Tryz.ntmps11
  go_wp2_with fail
  refine wp_loop_rounds 1 ?_
  rw [rounds_succ]
  go_wp2_with fail
  go_ret
  exact ⟨rfl, pt, h, Keeps.refl _ _, fun _ hx => .inl hx⟩
end Go.Proofs.YthggdkpikjekmaaGreatRDoor
