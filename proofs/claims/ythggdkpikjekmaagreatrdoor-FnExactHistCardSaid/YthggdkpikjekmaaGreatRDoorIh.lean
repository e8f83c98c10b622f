/- impl.Hist. -/
import Derived.Test.YthggdkpikjekmaaGreatRDoorReg
import Derived.Test.YthggdkpikjekmaaGreatRDoorSane
namespace Go.Proofs.YthggdkpikjekmaaGreatRDoor
open Go.RowKit Go.Lib WholeFloats
set_option maxRecDepth 100000
set_option linter.unusedVariables false

theorem htype_any (v : Value) (w : World) :
    Calls Tryz.prog 162 #[v] w fun e w' => e = .returned (.string ⟨#[104, 105, 115, 116, 111, 103, 114, 97, 109]⟩) ∧ w = w' := by
  go_enter Tryz.func162, Tryz.ntmps162
  go_wp2_with fail
  go_ret
  exact ⟨rfl, rfl⟩

theorem hist_metric (tagged : Bool) (a b : UInt8) (ha : 97 ≤ a.toNat ∧ a.toNat ≤ 122) (hb : 97 ≤ b.toNat ∧ b.toNat ≤ 122) (hq : Nat) (pt : Nat → Option Nat) (ns : List Nat) (w : World)
    (hh : HistAt w hq pt (loF 0 ns) (ctF (fun _ => 0) ns) ns.sum) (hT : Tabs w) (hl : ns.length ≤ 30) (hgood : ∀ n ∈ ns, Good n) (hsm : ns.sum < 2 ^ 53) :
    Metric w 37 (.pointer (some ⟨hq, 0, none⟩)) 162 161 (fullL tagged a b) [109, a, b] [104, 105, 115, 116, 111, 103, 114, 97, 109] (outL tagged a b ns) :=
  ⟨fun w => by kernel_rfl, fun w => by kernel_rfl, enters_of Tryz.func162 (by kernel_rfl) rfl, enters_of Tryz.func161 (by kernel_rfl) rfl,
    fun w => htype_any _ w, fun v hbv hw hn => mar_any tagged a b ha hb hq _ pt ns v (hh.keep (fun k hk => hbv.block k (hh.own_lt k hk)) hbv.size) (fun k hk => hh.own_lt k hk) (hT.below hbv hT.size) hT.size hl hgood hsm hw hn⟩

theorem fam_full (tagged : Bool) (a b : UInt8) (ha : 97 ≤ a.toNat ∧ a.toNat ≤ 122) (hb : 97 ≤ b.toNat ∧ b.toNat ≤ 122) (w : World) :
    Calls Tryz.prog 43 #[.string ⟨(fullL tagged a b).toArray⟩] w fun e w' => e = .returned (.string ⟨#[109, a, b]⟩) ∧ w = w' := by
  cases tagged
  · exact family_low [109, a, b] (low3 ha hb) w
  · exact family_tag ha hb w

theorem valid_full (tagged : Bool) (a b : UInt8) (ha : 97 ≤ a.toNat ∧ a.toNat ≤ 122) (hb : 97 ≤ b.toNat ∧ b.toNat ≤ 122) (w : World) :
    Calls Tryz.prog 37 #[.string ⟨(fullL tagged a b).toArray⟩] w fun e w' => e = .returned .nilIface ∧ w = w' := by
  cases tagged
  · exact validM_low [109, a, b] (low3 ha hb) w
  · exact validM_tag ha hb w

/-- Short names, small counts. -/
def Fine (l : Vis) : Prop := ∀ x ∈ l, x.1.length ≤ 50 ∧ x.2 < 100

theorem Fine.app {l m : Vis} (h : Fine l) (k : Fine m) : Fine (l ++ m) := fun x hx => (List.mem_append.1 hx).elim (h x) (k x)

theorem fine_visO (ct : Nat → Nat) (hct : ∀ N, ct N < 100) (d : Nat) : ∀ o, Fine (visO ct d o)
  | 0 => fun x hx => by cases hx
  | o + 1 => by
    have ih := fine_visO ct hct d o
    rw [visO_succ]
    split
    · exact ih.app fun x hx => by
        simp only [List.mem_cons, List.not_mem_nil, or_false] at hx
        subst hx
        exact ⟨rngL_len _, hct _⟩
    · exact ih

theorem fine_visD (lo : Nat) (ct : Nat → Nat) (hlo : lo < 100) (hct : ∀ N, ct N < 100) : ∀ d, Fine (visD lo ct d)
  | 0 => by
    rw [visD_zero, visL]
    split
    · intro x hx
      simp only [List.mem_cons, List.not_mem_nil, or_false] at hx
      subst hx
      exact ⟨lowL_len, hlo⟩
    · intro x hx
      cases hx
  | d + 1 => by
    rw [visD_succ]
    exact (fine_visD lo ct hlo hct d).app (fine_visO ct hct d 18)

theorem linesL_fine (tagged : Bool) (a b : UInt8) : ∀ l : Vis, Fine l → (linesL tagged a b l).length ≤ 100 * l.length
  | [], _ => Nat.zero_le _
  | x :: l, h => by
    have ih := linesL_fine tagged a b l fun y hy => h y (List.mem_cons_of_mem _ hy)
    have hx := h x List.mem_cons_self
    have h1 := (lineL_len tagged a b x.1 x.2 hx.1 hx.2).1
    have e : linesL tagged a b (x :: l) = lineL tagged a b x.1 x.2 ++ linesL tagged a b l := by simp [linesL]
    rw [e, List.length_append, List.length_cons]
    omega

theorem fine_visN (ns : List Nat) (hl : ns.length ≤ 30) : Fine (visN ns) := by
  unfold visN
  refine fine_visD _ _ ?_ (fun N => ?_) 27
  · have := loF_le 0 ns
    omega
  · have := ctF_le (fun _ => 0) ns N
    simp at this
    omega

theorem outL_len (tagged : Bool) (a b : UInt8) (ns : List Nat) (hl : ns.length ≤ 30) (hsm : ns.sum < 2 ^ 53) : (outL tagged a b ns).length ≤ 1000000 := by
  have h1 := linesL_fine tagged a b (visN ns) (fine_visN ns hl)
  have h2 : (visN ns).length ≤ 487 := by unfold visN; exact visD_len _ _ 27
  have h3 := itoa_len ns.sum hsm
  have h4 := decl_len ns.length (by omega)
  have h5 : (tailL tagged).length ≤ 7 := by cases tagged <;> decide
  unfold outL
  split
  · simp
  · unfold sumL cntL
    simp only [List.length_append, List.length_cons, List.length_nil]
    omega

theorem hist_any (tagged : Bool) (a b : UInt8) (ha : 97 ≤ a.toNat ∧ a.toNat ≤ 122) (hb : 97 ≤ b.toNat ∧ b.toNat ≤ 122) (ns : List Nat) (fv : Value) (w : World) (hT : Tabs w) (hl : ns.length ≤ 30) (hgood : ∀ n ∈ ns, Good n) (hsm : ns.sum < 2 ^ 53) (hfv : FsV w fv ns) :
    Calls Tryz.prog 9 #[.string ⟨(fullL tagged a b).toArray⟩, fv] w fun e w' => e = .returned (.string ⟨(outL tagged a b ns).toArray⟩) ∧ Below w.heap.size w w' := by
  have HV := Lib.hid (valid_full tagged a b ha hb)
  have HFv := Lib.hid hfv
  have HT := Lib.hid hT
  have hz8 := hT.size
  have HG := Lib.hid hgood
  have HS := Lib.hid hsm
  clear hfv hT hgood hsm
  go_enter Tryz.func9, Tryz.ntmps9
  go_wp2_with (go_at_call 15; refine (newset _).mono ?_; rintro e w1 ⟨rfl, hs, hz, hb1⟩)
  refine (newhist _ _ _ w1 hs HV.out).mono ?_
  rintro e w2 ⟨rfl, hh, ⟨g, nb, c, hg1, hg2, hS⟩, hk⟩
  have hb2 : Below w.heap.size w w2 := hb1.trans (hk.below_of hb1.size (fun k hk => by omega))
  have hv3 : (∃ A c, fv = .slice A 0 c ∧ ns = []) ∨ ∃ g c, fv = .slice (some ⟨g, 0, none⟩) ns.length c ∧ 0 < ns.length ∧ FsAt w2 g ns ∧ ¬ Own w1.heap.size (fun _ => none) g := by
    rcases HFv.out with h | ⟨g, c, q1, q2, q3⟩
    · exact .inl h
    · refine .inr ⟨g, c, q1, q2, q3.keep hb2.size (hb2.block g q3.1), fun ho => ?_⟩
      rcases ho with h | ⟨i, _, h⟩
      · have := q3.1; omega
      · cases h
  have HFill := Lib.hid (fill_any w1.heap.size (fun _ => none) ns fv w2 hh (by omega) HS.out HG.out hv3)
  have HB2 := Lib.hid hb2
  have HSet := Lib.hid hS
  have hsz2 := hk.size
  have HZ := Lib.hid hz
  clear hv3 hb2 hS hk hh hs hb1 hz
  simp only []
  go_at_K
  go_wp2_with fail
  refine HFill.out.mono ?_
  rintro e w3 ⟨rfl, pt', hh3, hk3, ho3⟩
  have hz := HZ.out
  have hz3 := hk3.size
  have hOl : ∀ k, Own w1.heap.size (fun _ => none) k → k = w1.heap.size := fun k hk => by
    rcases hk with hk | ⟨i, _, hk⟩
    · exact hk
    · cases hk
  have hB3 : Below w.heap.size w w3 := HB2.out.trans (hk3.below_of HB2.out.size (fun k hk => by have := hOl k hk; omega))
  have hS3 : SetOne w3 (w.heap.size + 1) ⟨(fullL tagged a b).toArray⟩ (.iface 37 (.pointer (some ⟨w1.heap.size, 0, none⟩))) g nb c := by
    have q := HSet.out
    exact ⟨(hk3.cell (p := ⟨w.heap.size + 1, 0, none⟩) q.lt (fun e => by have : w.heap.size + 1 = w1.heap.size := hOl _ e; omega)).trans q.c0, (hk3.cell (p := ⟨w.heap.size + 1, 2, none⟩) q.lt (fun e => by have : w.heap.size + 1 = w1.heap.size := hOl _ e; omega)).trans q.c2, (hk3.cell (p := ⟨w.heap.size + 1, 3, none⟩) q.lt (fun e => by have : w.heap.size + 1 = w1.heap.size := hOl _ e; omega)).trans q.c3,
      (hk3.cell (p := ⟨g, 0, none⟩) q.ltg (fun e => by have : g = w1.heap.size := hOl _ e; omega)).trans q.cg, (hk3.cell (p := ⟨nb, 0, none⟩) q.ltn (fun e => by have : nb = w1.heap.size := hOl _ e; omega)).trans q.n0, (hk3.cell (p := ⟨nb, 1, none⟩) q.ltn (fun e => by have : nb = w1.heap.size := hOl _ e; omega)).trans q.n1,
      Nat.lt_of_lt_of_le q.lt hz3, Nat.lt_of_lt_of_le q.ltg hz3, Nat.lt_of_lt_of_le q.ltn hz3⟩
  have hT3 : Tabs w3 := HT.out.below hB3 hz8
  have HTx := Lib.hid (text_any w3 (w.heap.size + 1) (outL tagged a b ns) (fun v hbv hzv hwr => by
    refine wp_any v (w.heap.size + 1) w3.heap.size _ _ _ _ (fullL tagged a b) [109, a, b] _ (outL tagged a b ns) g nb c (hist_metric tagged a b ha hb w1.heap.size pt' ns v (hh3.keep (fun k hk => hbv.block k (hh3.own_lt k hk)) hbv.size) (hT3.below hbv hT3.size) hl HG.out HS.out) (hS3.below hbv) (fam_full tagged a b ha hb) (by simp) hwr (outL_len tagged a b ns hl HS.out)))
  have HB3 := Lib.hid hB3
  clear hB3 hS3 hT3 hh3 hk3 ho3 hz hOl hz3
  simp only []
  go_at_K
  go_wp2_with fail
  refine HTx.out.mono ?_
  rintro e w4 ⟨rfl, hb4⟩
  have HB4 := Lib.hid (HB3.out.trans (hb4.mono HB3.out.size))
  clear hb4
  simp only []
  go_at_K
  go_wp2_with fail
  go_ret
  exact ⟨rfl, HB4.out⟩
end Go.Proofs.YthggdkpikjekmaaGreatRDoor
