/- Whole numbers as float64: sums, products and comparisons are exact below 2 to the power of 53. -/
import Derived.Laws.FloatArith
namespace Go.Proofs.YthggdkpikjekmaaGreatRDoor.WholeFloats
open Go Ieee

/-- The float64 of a natural number. -/
def wf (n : Nat) : Nat := floatOfInt .f64 (n : Int)

theorem wf_eq (n : Nat) : wf n = double.nearest false n 0 := by
  have h : ¬ ((n : Int) < 0) := by omega
  simp [wf, floatOfInt, FloatKind.nearest, FloatKind.encode, FloatKind.format, Format.write, h]

theorem log2_scaled (n k : Nat) (h0 : 0 < n) : (n * 2 ^ k).log2 = n.log2 + k := by
  have hp : 0 < 2 ^ k := Nat.two_pow_pos k
  have hne : n * 2 ^ k ≠ 0 := by
    have := Nat.mul_pos h0 hp
    omega
  refine (Nat.log2_eq_iff hne).2 ⟨?_, ?_⟩
  · rw [Nat.pow_add]; exact Nat.mul_le_mul_right _ (Nat.log2_self_le (by omega))
  · rw [show n.log2 + k + 1 = (n.log2 + 1) + k by omega, Nat.pow_add]
    exact Nat.mul_lt_mul_of_pos_right Nat.lt_log2_self hp

theorem cut_exact (way : Toward) (m k : Nat) (h0 : 0 < m) : way.cut false (m * 2 ^ k) k = m := by
  have hp : 0 < 2 ^ k := Nat.two_pow_pos k
  have hg : (1 : Nat) <<< min k ((m * 2 ^ k).log2 + 2) = 2 ^ k := by
    rw [log2_scaled m k h0, Nat.min_eq_left (by omega), Nat.shiftLeft_eq, Nat.one_mul]
  unfold Toward.cut
  simp only [hg, Nat.mul_div_cancel _ hp, Nat.mul_mod_left]
  cases way <;> simp

theorem nearest_scaled (n k : Nat) (h0 : 0 < n) (h : n < 2 ^ 53) :
    double.nearest false (n * 2 ^ k) (-(k : Int)) = (n.log2 + 1022) * 2 ^ 52 + n * 2 ^ (52 - n.log2) := by
  have hp : 0 < 2 ^ k := Nat.two_pow_pos k
  have hL : n.log2 ≤ 52 := by
    have := (Nat.log2_lt (by omega : n ≠ 0)).2 h
    omega
  have hne : n * 2 ^ k ≠ 0 := by
    have := Nat.mul_pos h0 hp
    omega
  have hle : double.leastPlace = -1074 := by decide
  have hfb : double.fractionBits = 52 := rfl
  have hlast : max (-(k : Int) + ((n * 2 ^ k).log2 : Nat) - (double.fractionBits : Nat)) double.leastPlace = (n.log2 : Int) - 52 := by
    rw [log2_scaled n k h0, hle, hfb]
    omega
  have hkept : Toward.even.cut false ((n * 2 ^ k) <<< (-(k : Int) - ((n.log2 : Int) - 52)).toNat) (((n.log2 : Int) - 52) - -(k : Int)).toNat = n * 2 ^ (52 - n.log2) := by
    by_cases hk : k + n.log2 ≤ 52
    · have e1 : (-(k : Int) - ((n.log2 : Int) - 52)).toNat = 52 - n.log2 - k := by omega
      have e2 : (((n.log2 : Int) - 52) - -(k : Int)).toNat = 0 := by omega
      rw [e1, e2, Nat.shiftLeft_eq, Nat.mul_assoc, ← Nat.pow_add, show k + (52 - n.log2 - k) = 52 - n.log2 by omega]
      have := cut_exact Toward.even (n * 2 ^ (52 - n.log2)) 0 (Nat.mul_pos h0 (Nat.two_pow_pos _))
      simpa using this
    · have e1 : (-(k : Int) - ((n.log2 : Int) - 52)).toNat = 0 := by omega
      have e2 : (((n.log2 : Int) - 52) - -(k : Int)).toNat = k + n.log2 - 52 := by omega
      rw [e1, e2, Nat.shiftLeft_zero, show n * 2 ^ k = (n * 2 ^ (52 - n.log2)) * 2 ^ (k + n.log2 - 52) by
        rw [Nat.mul_assoc, ← Nat.pow_add, show 52 - n.log2 + (k + n.log2 - 52) = k by omega]]
      exact cut_exact Toward.even _ _ (Nat.mul_pos h0 (Nat.two_pow_pos _))
  have hlt : n * 2 ^ (52 - n.log2) < 2 ^ 53 := by
    have h1 : n < 2 ^ (n.log2 + 1) := Nat.lt_log2_self
    calc n * 2 ^ (52 - n.log2) < 2 ^ (n.log2 + 1) * 2 ^ (52 - n.log2) := Nat.mul_lt_mul_of_pos_right h1 (Nat.two_pow_pos _)
      _ = 2 ^ 53 := by rw [← Nat.pow_add, show n.log2 + 1 + (52 - n.log2) = 53 by omega]
  unfold Format.nearest
  rw [if_neg hne]
  dsimp only
  rw [hlast, hkept, hle]
  have e3 : ((n.log2 : Int) - 52 - -1074).toNat = n.log2 + 1022 := by omega
  have hb : double.binade = 2 ^ 52 := rfl
  have hi : double.infRung = 2047 * 2 ^ 52 := by decide
  rw [e3, hb, hi]
  have hfin : (n.log2 + 1022) * 2 ^ 52 + n * 2 ^ (52 - n.log2) ≤ 2047 * 2 ^ 52 := by
    have h1 : (n.log2 + 1022) * 2 ^ 52 ≤ 1074 * 2 ^ 52 := Nat.mul_le_mul_right _ (by omega)
    have h2 : n * 2 ^ (52 - n.log2) ≤ 2 * 2 ^ 52 := by
      have : (2 : Nat) ^ 53 = 2 * 2 ^ 52 := by decide
      exact Nat.le_of_lt (this ▸ hlt)
    calc _ ≤ 1074 * 2 ^ 52 + 2 * 2 ^ 52 := Nat.add_le_add h1 h2
      _ ≤ 2047 * 2 ^ 52 := by decide
  rw [Nat.min_eq_left hfin]
  rfl

theorem wf_pos (n : Nat) (h0 : 0 < n) (h : n < 2 ^ 53) : wf n = (n.log2 + 1022) * 2 ^ 52 + n * 2 ^ (52 - n.log2) := by
  rw [wf_eq]
  have := nearest_scaled n 0 h0 h
  simpa using this

theorem nearest_wf (n k : Nat) (h : n < 2 ^ 53) : double.nearest false (n * 2 ^ k) (-(k : Int)) = wf n := by
  by_cases h0 : n = 0
  · subst h0
    simp [wf_eq, Format.nearest]
  · rw [nearest_scaled n k (by omega) h, wf_pos n (by omega) h]

/-- What such a word stands for. -/
theorem read_wf (n : Nat) (h : n < 2 ^ 53) : ∃ k : Nat, double.read (wf n) = .number false (n * 2 ^ k) (-(k : Int)) ∧ k ≤ 1074 ∧ (n = 0 ∨ k ≤ 52) := by
  by_cases h0 : n = 0
  · subst h0
    obtain ⟨k0, hk0⟩ : ∃ k0 : Nat, k0 = 1074 := ⟨_, rfl⟩
    have e : double.read (wf 0) = .number false 0 (-(k0 : Int)) := by rw [hk0]; decide
    exact ⟨k0, by rw [e, Nat.zero_mul], by omega, .inl rfl⟩
  · have hL : n.log2 ≤ 52 := by
      have := (Nat.log2_lt h0).2 h
      omega
    refine ⟨52 - n.log2, ?_, by omega, .inr (by omega)⟩
    rw [wf_pos n (by omega) h]
    have hlo : 2 ^ 52 ≤ n * 2 ^ (52 - n.log2) := by
      have h1 : 2 ^ n.log2 ≤ n := Nat.log2_self_le h0
      calc 2 ^ 52 = 2 ^ n.log2 * 2 ^ (52 - n.log2) := by rw [← Nat.pow_add, show n.log2 + (52 - n.log2) = 52 by omega]
        _ ≤ n * 2 ^ (52 - n.log2) := Nat.mul_le_mul_right _ h1
    have hlt : n * 2 ^ (52 - n.log2) < 2 ^ 53 := by
      have h1 : n < 2 ^ (n.log2 + 1) := Nat.lt_log2_self
      calc n * 2 ^ (52 - n.log2) < 2 ^ (n.log2 + 1) * 2 ^ (52 - n.log2) := Nat.mul_lt_mul_of_pos_right h1 (Nat.two_pow_pos _)
        _ = 2 ^ 53 := by rw [← Nat.pow_add, show n.log2 + 1 + (52 - n.log2) = 53 by omega]
    generalize n * 2 ^ (52 - n.log2) = m at hlo hlt
    have hb : double.binade = 2 ^ 52 := rfl
    have hi : double.infRung = 2047 * 2 ^ 52 := by decide
    have hs : double.signWeight = 2 ^ 63 := rfl
    have hle : double.leastPlace = -1074 := by decide
    have d1 : ((n.log2 + 1022) * 2 ^ 52 + m) / 2 ^ 63 = 0 := by omega
    have d2 : ((n.log2 + 1022) * 2 ^ 52 + m) % 2 ^ 63 = (n.log2 + 1022) * 2 ^ 52 + m := by omega
    have d3 : ((n.log2 + 1022) * 2 ^ 52 + m) % 2 ^ 52 = m - 2 ^ 52 := by omega
    have d4 : ((n.log2 + 1022) * 2 ^ 52 + m) / 2 ^ 52 = n.log2 + 1023 := by omega
    have c1 : ¬ ((n.log2 + 1022) * 2 ^ 52 + m < 2 ^ 52) := by omega
    have c2 : (n.log2 + 1022) * 2 ^ 52 + m < 2047 * 2 ^ 52 := by omega
    have e1 : 2 ^ 52 + (m - 2 ^ 52) = m := by omega
    have e2 : (-1074 : Int) + ((n.log2 + 1023 - 1 : Nat) : Int) = -((52 - n.log2 : Nat) : Int) := by omega
    unfold Format.read
    dsimp only
    rw [hb, hi, hs, hle, d1, d2, d3, d4, if_neg c1, if_pos c2, e1, e2]
    rfl

theorem sum_scaled (a b j k : Nat) : Datum.sum (.number false (a * 2 ^ j) (-(j : Int))) (.number false (b * 2 ^ k) (-(k : Int))) = some (.number false ((a + b) * 2 ^ max j k) (-((max j k : Nat) : Int))) := by
  have hm : min (-(j : Int)) (-(k : Int)) = -((max j k : Nat) : Int) := by omega
  have e1 : (-(j : Int) - -((max j k : Nat) : Int)).toNat = max j k - j := by omega
  have e2 : (-(k : Int) - -((max j k : Nat) : Int)).toNat = max j k - k := by omega
  have s1 : a * 2 ^ j * 2 ^ (max j k - j) = a * 2 ^ max j k := by rw [Nat.mul_assoc, ← Nat.pow_add, show j + (max j k - j) = max j k by omega]
  have s2 : b * 2 ^ k * 2 ^ (max j k - k) = b * 2 ^ max j k := by rw [Nat.mul_assoc, ← Nat.pow_add, show k + (max j k - k) = max j k by omega]
  have st : ((a * 2 ^ max j k : Nat) : Int) + ((b * 2 ^ max j k : Nat) : Int) = (((a + b) * 2 ^ max j k : Nat) : Int) := by rw [Nat.add_mul]; omega
  unfold Datum.sum
  dsimp only
  rw [hm, e1, e2]
  simp only [signed, Bool.false_eq_true, if_false, Nat.shiftLeft_eq, s1, s2, st]
  generalize (a + b) * 2 ^ max j k = t
  have hn : decide ((t : Int) < 0) = false := by simp
  rw [hn, Int.natAbs_natCast]
  simp

theorem add_wf (a b : Nat) (h : a + b < 2 ^ 53) : double.add (wf a) (wf b) = some (wf (a + b)) := by
  obtain ⟨j, hj, _, _⟩ := read_wf a (by omega)
  obtain ⟨k, hk, _, _⟩ := read_wf b (by omega)
  unfold Format.add
  rw [hj, hk, sum_scaled]
  simp only [Option.map_some, Format.write]
  rw [nearest_wf (a + b) (max j k) h]

theorem mul_wf (a b : Nat) (ha : a < 2 ^ 53) (hb : b < 2 ^ 53) (h : a * b < 2 ^ 53) : double.mul (wf a) (wf b) = some (wf (a * b)) := by
  obtain ⟨j, hj, _, _⟩ := read_wf a ha
  obtain ⟨k, hk, _, _⟩ := read_wf b hb
  unfold Format.mul
  rw [hj, hk]
  simp only [Datum.product, Option.map_some, Format.write]
  have e : a * 2 ^ j * (b * 2 ^ k) = a * b * 2 ^ (j + k) := by rw [Nat.pow_add]; simp [Nat.mul_left_comm, Nat.mul_assoc]
  have e' : -(j : Int) + -(k : Int) = -((j + k : Nat) : Int) := by omega
  rw [e, e']
  have := nearest_wf (a * b) (j + k) h
  simpa using this

theorem order_wf (a b : Nat) (ha : a < 2 ^ 53) (hb : b < 2 ^ 53) : double.order (wf a) (wf b) = some (compare a b) := by
  obtain ⟨j, hj, _, _⟩ := read_wf a ha
  obtain ⟨k, hk, _, _⟩ := read_wf b hb
  unfold Format.order
  rw [hj, hk]
  have hm : min (-(j : Int)) (-(k : Int)) = -((max j k : Nat) : Int) := by omega
  have e1 : (-(j : Int) - -((max j k : Nat) : Int)).toNat = max j k - j := by omega
  have e2 : (-(k : Int) - -((max j k : Nat) : Int)).toNat = max j k - k := by omega
  have s1 : a * 2 ^ j * 2 ^ (max j k - j) = a * 2 ^ max j k := by rw [Nat.mul_assoc, ← Nat.pow_add, show j + (max j k - j) = max j k by omega]
  have s2 : b * 2 ^ k * 2 ^ (max j k - k) = b * 2 ^ max j k := by rw [Nat.mul_assoc, ← Nat.pow_add, show k + (max j k - k) = max j k by omega]
  unfold Datum.order
  dsimp only
  rw [hm, e1, e2]
  simp only [signed, Bool.false_eq_true, if_false, Nat.shiftLeft_eq, s1, s2]
  have hp : 0 < 2 ^ max j k := Nat.two_pow_pos _
  have hlt : ((a * 2 ^ max j k : Nat) : Int) < ((b * 2 ^ max j k : Nat) : Int) ↔ a < b := by
    rw [Int.ofNat_lt]
    exact Nat.mul_lt_mul_right hp
  have hgt : ((b * 2 ^ max j k : Nat) : Int) < ((a * 2 ^ max j k : Nat) : Int) ↔ b < a := by
    rw [Int.ofNat_lt]
    exact Nat.mul_lt_mul_right hp
  rw [Int.compare_eq_ite_lt, Nat.compare_eq_ite_lt]
  simp only [hlt, hgt]

theorem toInt_wf (n : Nat) (h : n < 2 ^ 53) : (double.read (wf n)).toInt .zero = some (n : Int) := by
  obtain ⟨k, hk, _, hk2⟩ := read_wf n h
  rw [hk]
  have e1 : (-(k : Int)).toNat = 0 := by omega
  have e2 : (- -(k : Int)).toNat = k := by omega
  simp only [Datum.toInt, Datum.integral, e1, e2, Nat.shiftLeft_zero]
  have hc : Toward.zero.cut false (n * 2 ^ k) k = n := by
    by_cases h0 : n = 0
    · subst h0
      simp [Toward.cut]
    · exact cut_exact _ _ _ (by omega)
  rw [hc]
  simp [signed]

end Go.Proofs.YthggdkpikjekmaaGreatRDoor.WholeFloats
