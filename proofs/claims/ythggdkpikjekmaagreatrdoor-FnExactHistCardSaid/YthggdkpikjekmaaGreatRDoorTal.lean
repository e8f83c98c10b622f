/- The plain law: each value is in one bucket. -/
import Derived.Test.YthggdkpikjekmaaGreatRDoorBuk
import Derived.Test.YthggdkpikjekmaaGreatRDoorPlaceA
import Derived.Test.YthggdkpikjekmaaGreatRDoorPlaceB
namespace Go.Proofs.YthggdkpikjekmaaGreatRDoor
open WholeFloats

def tot (l : Vis) : Nat := (l.map (·.2)).sum
theorem tot_nil : tot [] = 0 := rfl
theorem tot_app (a b : Vis) : tot (a ++ b) = tot a + tot b := by simp [tot]
theorem tot_one (s : List UInt8) (n : Nat) : tot [(s, n)] = n := by simp [tot]

theorem sum_bump (f g : Nat → Nat) (m : Nat) : ∀ n, (∀ j, j < n → g j = f j + if j = m then 1 else 0) → ((List.range n).map g).sum = ((List.range n).map f).sum + if m < n then 1 else 0
  | 0, _ => by simp
  | n + 1, h => by
    have ih := sum_bump f g m n fun j hj => h j (by omega)
    rw [List.range_succ, List.map_append, List.map_append, List.sum_append, List.sum_append, ih]
    simp only [List.map_cons, List.map_nil, List.sum_cons, List.sum_nil]
    rw [h n (by omega)]
    by_cases h1 : m < n
    · rw [if_pos h1, if_neg (show ¬ n = m by omega), if_pos (show m < n + 1 by omega)]
      omega
    · rw [if_neg h1]
      by_cases h2 : n = m
      · rw [if_pos h2, if_pos (show m < n + 1 by omega)]
        omega
      · rw [if_neg h2, if_neg (show ¬ m < n + 1 by omega)]
        omega

def row (ct : Nat → Nat) (i : Nat) : Nat := ((List.range 18).map fun j => ct (18 * i + j)).sum
def grid (ct : Nat → Nat) (n : Nat) : Nat := ((List.range n).map (row ct)).sum

theorem row_bump (ct : Nat → Nat) (N i : Nat) : row (bump ct N) i = row ct i + if i = N / 18 then 1 else 0 := by
  by_cases h : i = N / 18
  · rw [if_pos h]
    have := sum_bump (fun j => ct (18 * i + j)) (fun j => bump ct N (18 * i + j)) (N % 18) 18 fun j hj => by
      rw [bump_at ct hj]
      by_cases h2 : j = N % 18
      · rw [if_pos ⟨h, h2⟩, if_pos h2]
        have : 18 * i + j = N := by omega
        rw [this]
      · rw [if_neg (fun e => h2 e.2), if_neg h2]
        rfl
    rw [if_pos (show N % 18 < 18 by omega)] at this
    exact this
  · rw [if_neg h, Nat.add_zero]
    unfold row
    congr 1
    refine List.map_congr_left fun j hj => ?_
    rw [bump_at ct (List.mem_range.1 hj), if_neg (fun e => h e.1)]

theorem grid_bump (ct : Nat → Nat) (N : Nat) (hN : N < 486) : grid (bump ct N) 27 = grid ct 27 + 1 := by
  have := sum_bump (row ct) (row (bump ct N)) (N / 18) 27 fun j _ => row_bump ct N j
  rw [if_pos (show N / 18 < 27 by omega)] at this
  exact this

theorem tot_visO (ct : Nat → Nat) (d : Nat) : ∀ o, tot (visO ct d o) = ((List.range o).map fun j => ct (18 * d + j)).sum
  | 0 => rfl
  | o + 1 => by
    have ih := tot_visO ct d o
    rw [visO_succ, List.range_succ, List.map_append, List.sum_append]
    simp only [List.map_cons, List.map_nil, List.sum_cons, List.sum_nil, Nat.add_zero]
    split
    · rw [tot_app, tot_one, ih]
    · rw [ih]; omega

theorem grid_succ (ct : Nat → Nat) (d : Nat) : grid ct (d + 1) = grid ct d + row ct d := by
  unfold grid
  rw [List.range_succ, List.map_append, List.sum_append]
  simp only [List.map_cons, List.map_nil, List.sum_cons, List.sum_nil, Nat.add_zero]

theorem tot_row (ct : Nat → Nat) (d : Nat) : tot (visO ct d 18) = row ct d := by
  rw [tot_visO]
  unfold row
  rfl

theorem tot_visL (lo : Nat) : tot (visL lo) = lo := by
  unfold visL
  by_cases h : 0 < lo
  · rw [if_pos h, tot_one]
  · rw [if_neg h, tot_nil]
    omega

theorem tot_visD (lo : Nat) (ct : Nat → Nat) (d : Nat) : tot (visD lo ct d) = lo + grid ct d := by
  induction d with
  | zero =>
    rw [visD_zero, tot_visL]
    unfold grid
    simp only [List.range_zero, List.map_nil, List.sum_nil, Nat.add_zero]
  | succ d ih =>
    rw [visD_succ, tot_app, ih, tot_row, grid_succ]
    omega

theorem good_bk {n : Nat} (h : Good n) (h0 : n ≠ 0) : bk n < 486 := by
  rcases h with h | ⟨N, h⟩
  · exact absurd h h0
  · unfold bk
    rw [h]
    exact (bucketO_parts h).1

theorem rev_ind {P : List Nat → Prop} (h0 : P []) (h1 : ∀ l n, P l → P (l ++ [n])) (l : List Nat) : P l := by
  have h : ∀ r : List Nat, P r.reverse := fun r => by
    induction r with
    | nil => exact h0
    | cons a r ih => rw [List.reverse_cons]; exact h1 _ _ ih
  have := h l.reverse
  rwa [List.reverse_reverse] at this

/-- EACH VALUE IS IN ONE BUCKET. -/
theorem tally (ns : List Nat) : (∀ n ∈ ns, Good n) → tot (visN ns) = ns.length := by
  unfold visN
  rw [tot_visD]
  refine rev_ind (P := fun ns => (∀ n ∈ ns, Good n) → loF 0 ns + grid (ctF (fun _ => 0) ns) 27 = ns.length) (fun _ => ?_) (fun ns n ih h => ?_) ns
  · rw [loF_nil, ctF_nil]
    decide
  · have ih := ih fun m hm => h m (by simp [hm])
    rw [loF_snoc, ctF_snoc, List.length_append]
    by_cases h0 : n = 0
    · rw [if_pos h0, if_pos h0]
      simp only [List.length_cons, List.length_nil]
      omega
    · rw [if_neg h0, if_neg h0, grid_bump _ _ (good_bk (h n (by simp)) h0)]
      simp only [List.length_cons, List.length_nil]
      omega

theorem allAt_good {k : Nat} (h : allAt k = true) (d : Nat) (hd : d ≤ 255) : Good (d * 10 ^ k) := by
  by_cases h0 : d = 0
  · exact .inl (by rw [h0, Nat.zero_mul])
  · have := List.all_eq_true.1 h (d - 1) (List.mem_range.2 (by omega))
    rw [show d - 1 + 1 = d by omega] at this
    obtain ⟨N, hN⟩ := Option.isSome_iff_exists.1 this
    exact .inr ⟨N, hN⟩

theorem good_all (d e : Nat) (hd : d ≤ 255) (he : e < 8) : Good (d * 10 ^ e) := by
  match e, he with
  | 0, _ => exact allAt_good all0 d hd
  | 1, _ => exact allAt_good all1 d hd
  | 2, _ => exact allAt_good all2 d hd
  | 3, _ => exact allAt_good all3 d hd
  | 4, _ => exact allAt_good all4 d hd
  | 5, _ => exact allAt_good all5 d hd
  | 6, _ => exact allAt_good all6 d hd
  | 7, _ => exact allAt_good all7 d hd

theorem getD_le {ds : List Nat} (hb : ∀ d ∈ ds, d ≤ 255) (i : Nat) : ds.getD i 0 ≤ 255 := by
  rw [List.getD_eq_getElem?_getD]
  cases h : ds[i]? with
  | none => simp
  | some x => exact hb x (List.mem_of_getElem? h)

theorem vals_good {ds : List Nat} (hb : ∀ d ∈ ds, d ≤ 255) : ∀ n ∈ valsOf ds, Good n := fun n hn => by
  simp only [valsOf, vals, List.mem_map] at hn
  obtain ⟨i, _, rfl⟩ := hn
  exact good_all _ _ (getD_le hb _) (by omega)

theorem vals_sum {ds : List Nat} (hb : ∀ d ∈ ds, d ≤ 255) : ∀ m, (vals ds m).sum ≤ m * 2550000000
  | 0 => by simp [vals]
  | m + 1 => by
    have ih := vals_sum hb m
    rw [vals_succ, List.sum_append, List.sum_singleton]
    have h1 : 10 ^ (ds.getD (2 * m + 1) 0 % 8) ≤ 10 ^ 7 := Nat.pow_le_pow_right (by omega) (by omega)
    have h2 := Nat.mul_le_mul (getD_le hb (2 * m)) h1
    omega

theorem valsN_le (ds : List Nat) : valsN ds ≤ 30 := by unfold valsN; omega
theorem valsOf_length (ds : List Nat) : (valsOf ds).length = valsN ds := vals_length _ _
theorem valsOf_sum {ds : List Nat} (hb : ∀ d ∈ ds, d ≤ 255) : (valsOf ds).sum < 2 ^ 53 := by
  have h1 := vals_sum hb (valsN ds)
  have h2 := valsN_le ds
  have h3 := Nat.mul_le_mul_right 2550000000 h2
  have h4 : 30 * 2550000000 < 2 ^ 53 := by decide
  unfold valsOf
  omega
end Go.Proofs.YthggdkpikjekmaaGreatRDoor
