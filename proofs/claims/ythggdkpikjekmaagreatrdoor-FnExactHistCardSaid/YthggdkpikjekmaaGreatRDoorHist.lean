/- A histogram in memory: thirty cells and, for each tenfold that has a value, a block of eighteen counters. What Update does to it. -/
import Derived.Test.YthggdkpikjekmaaGreatRDoorPlace
namespace Go.Proofs.YthggdkpikjekmaaGreatRDoor
open Go.RowKit WholeFloats
set_option maxRecDepth 100000

theorem cs_ne (w : World) (b o b' o' : Nat) (v : Value) (h : b ≠ b' ∨ o ≠ o') : (w.setCell ⟨b, o, none⟩ v).cell? ⟨b', o', none⟩ = w.cell? ⟨b', o', none⟩ :=
  World.cell?_setCell_other _ _ _ _ (by
    intro e
    injection e with e1 e2
    omega)
theorem cs_eq (w : World) (b o : Nat) (v : Value) (h : (w.cell? ⟨b, o, none⟩).isSome = true) : (w.setCell ⟨b, o, none⟩ v).cell? ⟨b, o, none⟩ = some v :=
  World.cell?_setCell_same' _ _ _ h
theorem cs_size (w : World) (a : Addr) (v : Value) : (w.setCell a v).heap.size = w.heap.size := by simp [World.setCell]
theorem cs_heap (w : World) (a : Addr) (v : Value) (k : Nat) (h : k ≠ a.block) : (w.setCell a v).heap[k]? = w.heap[k]? := Below.heap_setCell _ _ _ _ h
theorem ca_old (w : World) (o : Obj) (b i : Nat) (h : b < w.heap.size) : (w.alloc o).cell? ⟨b, i, none⟩ = w.cell? ⟨b, i, none⟩ := World.cell?_alloc_lt _ _ _ h
theorem fa_old (w : World) (o : Obj) (b i : Nat) (h : b < w.heap.size) : (w.alloc o).frozen? ⟨b, i, none⟩ = w.frozen? ⟨b, i, none⟩ := World.frozen?_alloc_old _ _ _ (Nat.ne_of_lt h)

theorem cell_same {a b : World} (h : SameMem a b) (p : Addr) : a.cell? p = b.cell? p := by simp only [World.cell?, h.1]
theorem frozen_same {a b : World} (h : SameMem a b) (p : Addr) : a.frozen? p = b.frozen? p := by simp only [World.frozen?, h.1]

/-- Nothing but what S names, and what is new, has turned. -/
structure Keeps (S : Nat → Prop) (w w' : World) : Prop where
  os : w'.os = w.os
  tape : w'.tape = w.tape
  output : w'.output = w.output
  size : w.heap.size ≤ w'.heap.size
  block : ∀ k, k < w.heap.size → ¬ S k → w'.heap[k]? = w.heap[k]?

theorem Keeps.refl (S : Nat → Prop) (w : World) : Keeps S w w := ⟨rfl, rfl, rfl, Nat.le_refl _, fun _ _ _ => rfl⟩
theorem Keeps.trans {S T U : Nat → Prop} {a b c : World} (h : Keeps S a b) (k : Keeps T b c) (hs : ∀ x, x < a.heap.size → S x → U x) (ht : ∀ x, x < a.heap.size → T x → U x) : Keeps U a c :=
  ⟨k.os.trans h.os, k.tape.trans h.tape, k.output.trans h.output, Nat.le_trans h.size k.size, fun i hi hn =>
    (k.block i (Nat.lt_of_lt_of_le hi h.size) (fun e => hn (ht i hi e))).trans (h.block i hi (fun e => hn (hs i hi e)))⟩
theorem Keeps.mono {S T : Nat → Prop} {a b : World} (h : Keeps S a b) (hs : ∀ x, x < a.heap.size → S x → T x) : Keeps T a b :=
  ⟨h.os, h.tape, h.output, h.size, fun i hi hn => h.block i hi (fun e => hn (hs i hi e))⟩
theorem Keeps.of_below {S : Nat → Prop} {a b : World} (h : Below a.heap.size a b) : Keeps S a b :=
  ⟨h.os, h.tape, h.output, h.size, fun i hi _ => h.block i hi⟩
theorem Keeps.below {a b : World} (h : Keeps (fun _ => False) a b) : Below a.heap.size a b :=
  ⟨h.os, h.tape, h.output, h.size, fun i hi => h.block i hi (fun e => e)⟩
theorem Keeps.below_of {S : Nat → Prop} {a b : World} {B : Nat} (h : Keeps S a b) (hB : B ≤ a.heap.size) (hS : ∀ k, S k → B ≤ k) : Below B a b :=
  ⟨h.os, h.tape, h.output, h.size, fun i hi => h.block i (by omega) (fun e => by have := hS i e; omega)⟩
theorem Keeps.cell {S : Nat → Prop} {a b : World} (h : Keeps S a b) {p : Addr} (hp : p.block < a.heap.size) (hn : ¬ S p.block) : b.cell? p = a.cell? p := World.cell?_of_block (h.block _ hp hn)
theorem Keeps.frozen {S : Nat → Prop} {a b : World} (h : Keeps S a b) {p : Addr} (hp : p.block < a.heap.size) (hn : ¬ S p.block) : b.frozen? p = a.frozen? p := World.frozen?_of_block (h.block _ hp hn)

/-- The blocks of a histogram. -/
def Own (b : Nat) (pt : Nat → Option Nat) (k : Nat) : Prop := k = b ∨ ∃ i, i < 27 ∧ pt i = some k

/-- A histogram at block b: 'pt i' is the block of the i-th tenfold, 'lo' the values below the buckets, 'ct N' those in bucket N, 'sm' the sum. -/
structure HistAt (w : World) (b : Nat) (pt : Nat → Option Nat) (lo : Nat) (ct : Nat → Nat) (sm : Nat) : Prop where
  lt : b < w.heap.size
  lower : w.cell? ⟨b, 27, none⟩ = some (.int .u64 lo)
  upper : w.cell? ⟨b, 28, none⟩ = some (.int .u64 0)
  sum : w.cell? ⟨b, 29, none⟩ = some (.float .f64 (wf sm))
  free : ∀ o, w.frozen? ⟨b, o, none⟩ = false
  ptr : ∀ i, i < 27 → w.cell? ⟨b, i, none⟩ = some (.pointer ((pt i).map fun g => ⟨g, 0, none⟩))
  nil : ∀ i, i < 27 → pt i = none → ∀ j, j < 18 → ct (18 * i + j) = 0
  cell : ∀ i, i < 27 → ∀ g, pt i = some g → g ≠ b ∧ g < w.heap.size ∧ (∀ o, w.frozen? ⟨g, o, none⟩ = false) ∧ ∀ j, j < 18 → w.cell? ⟨g, j, none⟩ = some (.int .u64 (ct (18 * i + j)))
  inj : ∀ i i' g, i < 27 → i' < 27 → pt i = some g → pt i' = some g → i = i'

theorem HistAt.keep {w w' : World} {b : Nat} {pt : Nat → Option Nat} {lo : Nat} {ct : Nat → Nat} {sm : Nat} (h : HistAt w b pt lo ct sm)
    (hk : ∀ k, Own b pt k → w'.heap[k]? = w.heap[k]?) (hz : w.heap.size ≤ w'.heap.size) : HistAt w' b pt lo ct sm := by
  have cb : ∀ o, w'.cell? ⟨b, o, none⟩ = w.cell? ⟨b, o, none⟩ := fun o => World.cell?_of_block (hk b (.inl rfl))
  have fb : ∀ o, w'.frozen? ⟨b, o, none⟩ = w.frozen? ⟨b, o, none⟩ := fun o => World.frozen?_of_block (hk b (.inl rfl))
  refine ⟨Nat.lt_of_lt_of_le h.lt hz, (cb _).trans h.lower, (cb _).trans h.upper, (cb _).trans h.sum, fun o => (fb o).trans (h.free o), fun i hi => (cb i).trans (h.ptr i hi), h.nil, fun i hi g hg => ?_, h.inj⟩
  obtain ⟨h1, h2, h3, h4⟩ := h.cell i hi g hg
  have hb := hk g (.inr ⟨i, hi, hg⟩)
  exact ⟨h1, Nat.lt_of_lt_of_le h2 hz, fun o => (World.frozen?_of_block (a := ⟨g, o, none⟩) hb).trans (h3 o), fun j hj => (World.cell?_of_block (a := ⟨g, j, none⟩) hb).trans (h4 j hj)⟩

theorem HistAt.own_lt {w : World} {b : Nat} {pt : Nat → Option Nat} {lo : Nat} {ct : Nat → Nat} {sm : Nat} (h : HistAt w b pt lo ct sm) (k : Nat) (hk : Own b pt k) : k < w.heap.size := by
  rcases hk with rfl | ⟨i, hi, hg⟩
  · exact h.lt
  · exact (h.cell i hi k hg).2.1

/-- What Update leaves. -/
def UpdPost (w : World) (b : Nat) (pt : Nat → Option Nat) (lo : Nat) (ct : Nat → Nat) (sm : Nat) (e : Ending) (w' : World) : Prop :=
  e = .returned (.tuple #[]) ∧ ∃ pt', HistAt w' b pt' lo ct sm ∧ Keeps (Own b pt) w w' ∧ ∀ k, Own b pt' k → Own b pt k ∨ w.heap.size ≤ k

def bump (ct : Nat → Nat) (N : Nat) : Nat → Nat := fun k => if k = N then ct k + 1 else ct k

section
variable {w w' : World} {b : Nat} {pt : Nat → Option Nat} {lo : Nat} {ct : Nat → Nat} {sm : Nat}

theorem upd_zero (h : HistAt w b pt lo ct sm) (he : SameMem w' ((w.setCell ⟨b, 29, none⟩ (.float .f64 (wf sm))).setCell ⟨b, 27, none⟩ (.int .u64 (lo + 1)))) :
    ∃ pt', HistAt w' b pt' (lo + 1) ct sm ∧ Keeps (Own b pt) w w' ∧ ∀ k, Own b pt' k → Own b pt k ∨ w.heap.size ≤ k := by
  have cne : ∀ g o, (g ≠ b ∨ (o ≠ 29 ∧ o ≠ 27)) → w'.cell? ⟨g, o, none⟩ = w.cell? ⟨g, o, none⟩ := fun g o hg => by
    rw [cell_same he, cs_ne _ _ _ _ _ _ (by omega), cs_ne _ _ _ _ _ _ (by omega)]
  have fe : ∀ p, w'.frozen? p = w.frozen? p := fun p => by rw [frozen_same he]; simp
  have hz : w'.heap.size = w.heap.size := by rw [he.1, cs_size, cs_size]
  refine ⟨pt, ⟨by rw [hz]; exact h.lt, ?_, (cne _ _ (by omega)).trans h.upper, ?_, fun o => (fe _).trans (h.free o), fun i hi => (cne _ _ (by omega)).trans (h.ptr i hi), h.nil, fun i hi g hg => ?_, h.inj⟩, ⟨he.2.1, he.2.2.2, he.2.2.1, by omega, fun k hk hn => ?_⟩, fun k hk => .inl hk⟩
  · rw [cell_same he, cs_eq]
    · rfl
    · rw [cs_ne _ _ _ _ _ _ (by omega), h.lower]; rfl
  · rw [cell_same he, cs_ne _ _ _ _ _ _ (by omega), cs_eq _ _ _ _ (by rw [h.sum]; rfl)]
  · obtain ⟨h1, h2, h3, h4⟩ := h.cell i hi g hg
    exact ⟨h1, by omega, fun o => (fe _).trans (h3 o), fun j hj => (cne _ _ (by omega)).trans (h4 j hj)⟩
  · have hkb : k ≠ b := fun e => hn (.inl e)
    rw [he.1, cs_heap _ _ _ _ hkb, cs_heap _ _ _ _ hkb]

theorem bump_at (ct : Nat → Nat) {N i j : Nat} (hj : j < 18) : bump ct N (18 * i + j) = if i = N / 18 ∧ j = N % 18 then ct N + 1 else ct (18 * i + j) := by
  unfold bump
  by_cases h : i = N / 18 ∧ j = N % 18
  · have e : 18 * i + j = N := by omega
    rw [if_pos h, if_pos e, e]
  · have e : 18 * i + j ≠ N := by omega
    rw [if_neg h, if_neg e]

theorem upd_there {g N : Nat} {n : Nat} (h : HistAt w b pt lo ct sm) (hN : N < 486) (hg : pt (N / 18) = some g)
    (he : SameMem w' ((w.setCell ⟨b, 29, none⟩ (.float .f64 (wf (sm + n)))).setCell ⟨g, N % 18, none⟩ (.int .u64 (ct N + 1)))) :
    ∃ pt', HistAt w' b pt' lo (bump ct N) (sm + n) ∧ Keeps (Own b pt) w w' ∧ ∀ k, Own b pt' k → Own b pt k ∨ w.heap.size ≤ k := by
  have hi0 : N / 18 < 27 := by omega
  obtain ⟨g1, g2, g3, g4⟩ := h.cell (N / 18) hi0 g hg
  have cne : ∀ x o, (x ≠ b ∨ o ≠ 29) → (x ≠ g ∨ o ≠ N % 18) → w'.cell? ⟨x, o, none⟩ = w.cell? ⟨x, o, none⟩ := fun x o h1 h2 => by
    rw [cell_same he, cs_ne _ _ _ _ _ _ (by omega), cs_ne _ _ _ _ _ _ (by omega)]
  have fe : ∀ p, w'.frozen? p = w.frozen? p := fun p => by rw [frozen_same he]; simp
  have hz : w'.heap.size = w.heap.size := by rw [he.1, cs_size, cs_size]
  refine ⟨pt, ⟨by rw [hz]; exact h.lt, (cne _ _ (by omega) (by omega)).trans h.lower, (cne _ _ (by omega) (by omega)).trans h.upper, ?_, fun o => (fe _).trans (h.free o), fun i hi => (cne _ _ (by omega) (by omega)).trans (h.ptr i hi), fun i hi hp j hj => ?_, fun i hi x hx => ?_, h.inj⟩, ⟨he.2.1, he.2.2.2, he.2.2.1, by omega, fun k hk hn => ?_⟩, fun k hk => .inl hk⟩
  · rw [cell_same he, cs_ne _ _ _ _ _ _ (by omega), cs_eq _ _ _ _ (by rw [h.sum]; rfl)]
  · rw [bump_at ct hj, if_neg (by rintro ⟨rfl, _⟩; rw [hg] at hp; cases hp)]
    exact h.nil i hi hp j hj
  · obtain ⟨h1, h2, h3, h4⟩ := h.cell i hi x hx
    refine ⟨h1, by omega, fun o => (fe _).trans (h3 o), fun j hj => ?_⟩
    rw [bump_at ct hj]
    by_cases hij : i = N / 18 ∧ j = N % 18
    · obtain ⟨rfl, rfl⟩ := hij
      rw [hg] at hx
      injection hx with hx
      subst hx
      rw [if_pos ⟨rfl, rfl⟩, cell_same he, cs_eq]
      · rfl
      · rw [cs_ne _ _ _ _ _ _ (by omega), g4 _ hj]; rfl
    · rw [if_neg hij, cne x j (by omega) ?_]
      · exact h4 j hj
      · by_cases hxg : x = g
        · subst hxg
          have := h.inj i (N / 18) x hi hi0 hx hg
          omega
        · exact .inl hxg
  · have hkb : k ≠ b := fun e => hn (.inl e)
    have hkg : k ≠ g := fun e => hn (.inr ⟨N / 18, hi0, by rw [e]; exact hg⟩)
    rw [he.1, cs_heap _ _ _ _ hkg, cs_heap _ _ _ _ hkb]

theorem upd_new {N : Nat} {n : Nat} {T : TypeId} (h : HistAt w b pt lo ct sm) (hN : N < 486) (hg : pt (N / 18) = none)
    (he : SameMem w' (((w.setCell ⟨b, 29, none⟩ (.float .f64 (wf (sm + n)))).setCell ⟨b, N / 18, none⟩ (.pointer (some ⟨w.heap.size, 0, none⟩))).alloc (.cells (zeroList.set (N % 18) (.int .u64 1)).toArray T))) :
    ∃ pt', HistAt w' b pt' lo (bump ct N) (sm + n) ∧ Keeps (Own b pt) w w' ∧ ∀ k, Own b pt' k → Own b pt k ∨ w.heap.size ≤ k := by
  have hi0 : N / 18 < 27 := by omega
  have hlt := h.lt
  have sz2 : ((w.setCell ⟨b, 29, none⟩ (.float .f64 (wf (sm + n)))).setCell ⟨b, N / 18, none⟩ (.pointer (some ⟨w.heap.size, 0, none⟩))).heap.size = w.heap.size := by rw [cs_size, cs_size]
  have cne : ∀ x o, x < w.heap.size → (x ≠ b ∨ (o ≠ 29 ∧ o ≠ N / 18)) → w'.cell? ⟨x, o, none⟩ = w.cell? ⟨x, o, none⟩ := fun x o h1 h2 => by
    rw [cell_same he, ca_old _ _ _ _ (by rw [sz2]; exact h1), cs_ne _ _ _ _ _ _ (by omega), cs_ne _ _ _ _ _ _ (by omega)]
  have fe : ∀ x o, x < w.heap.size → w'.frozen? ⟨x, o, none⟩ = w.frozen? ⟨x, o, none⟩ := fun x o hx => by rw [frozen_same he, fa_old _ _ _ _ (by rw [sz2]; exact hx)]; simp
  have hz : w'.heap.size = w.heap.size + 1 := by rw [he.1, World.size_alloc, sz2]
  have new : ∀ j, w'.cell? ⟨w.heap.size, j, none⟩ = (zeroList.set (N % 18) (.int .u64 1))[j]? := fun j => by
    rw [cell_same he, World.cell?_alloc_at _ _ _ _ sz2.symm, List.getElem?_toArray]
  have newf : ∀ j, w'.frozen? ⟨w.heap.size, j, none⟩ = false := fun j => by
    rw [frozen_same he]
    have := World.frozen?_alloc_new ((w.setCell ⟨b, 29, none⟩ (.float .f64 (wf (sm + n)))).setCell ⟨b, N / 18, none⟩ (.pointer (some ⟨w.heap.size, 0, none⟩))) (zeroList.set (N % 18) (.int .u64 1)).toArray T j
    rwa [sz2] at this
  refine ⟨fun i => if i = N / 18 then some w.heap.size else pt i, ⟨by omega, (cne _ _ hlt (by omega)).trans h.lower, (cne _ _ hlt (by omega)).trans h.upper, ?_, fun o => (fe _ _ hlt).trans (h.free o), fun i hi => ?_, fun i hi hp j hj => ?_, fun i hi x hx => ?_, fun i i' x hi hi' hx hx' => ?_⟩, ⟨he.2.1, he.2.2.2, he.2.2.1, by omega, fun k hk hn => ?_⟩, fun k hk => ?_⟩
  · rw [cell_same he, ca_old _ _ _ _ (by rw [sz2]; exact hlt), cs_ne _ _ _ _ _ _ (by omega), cs_eq _ _ _ _ (by rw [h.sum]; rfl)]
  · by_cases hii : i = N / 18
    · subst hii
      rw [cell_same he, ca_old _ _ _ _ (by rw [sz2]; exact hlt), cs_eq]
      · simp
      · rw [cs_ne _ _ _ _ _ _ (by omega), h.ptr _ hi]; rfl
    · rw [cne _ _ hlt (by omega), h.ptr i hi, if_neg hii]
  · by_cases hii : i = N / 18
    · rw [if_pos hii] at hp; cases hp
    · rw [if_neg hii] at hp
      rw [bump_at ct hj, if_neg (by omega)]
      exact h.nil i hi hp j hj
  · by_cases hii : i = N / 18
    · rw [if_pos hii] at hx
      injection hx with hx
      subst hx
      refine ⟨by omega, by omega, newf, fun j hj => ?_⟩
      have h0 := h.nil i hi (by rw [hii]; exact hg) j hj
      rw [new, bump_at ct hj]
      by_cases hjj : j = N % 18
      · have e : ct N = 0 := by
          have : 18 * i + j = N := by omega
          rw [← this]; exact h0
        rw [if_pos ⟨hii, hjj⟩, hjj, List.getElem?_set_self (by rw [zeroList_eq, List.length_replicate]; omega), e]
        rfl
      · rw [if_neg (by omega), List.getElem?_set_ne (by omega), zeroList_at j hj, h0]
        rfl
    · rw [if_neg hii] at hx
      obtain ⟨h1, h2, h3, h4⟩ := h.cell i hi x hx
      refine ⟨h1, by omega, fun o => (fe _ _ h2).trans (h3 o), fun j hj => ?_⟩
      rw [cne _ _ h2 (by omega), bump_at ct hj, if_neg (by omega)]
      exact h4 j hj
  · have old : ∀ i, i < 27 → pt i = some x → x ≠ w.heap.size := fun i hi e => by have := (h.cell i hi x e).2.1; omega
    by_cases h1 : i = N / 18 <;> by_cases h2 : i' = N / 18
    · omega
    · rw [if_pos h1] at hx; rw [if_neg h2] at hx'
      injection hx with hx
      exact absurd hx.symm (old i' hi' hx')
    · rw [if_neg h1] at hx; rw [if_pos h2] at hx'
      injection hx' with hx'
      exact absurd hx'.symm (old i hi hx)
    · rw [if_neg h1] at hx; rw [if_neg h2] at hx'
      exact h.inj i i' x hi hi' hx hx'
  · have hkb : k ≠ b := fun e => hn (.inl e)
    rw [he.1, Below.heap_alloc _ _ _ (by rw [sz2]; exact hk), cs_heap _ _ _ _ hkb, cs_heap _ _ _ _ hkb]
  · rcases hk with rfl | ⟨i, hi, hx⟩
    · exact .inl (.inl rfl)
    · by_cases hii : i = N / 18
      · simp only [if_pos hii] at hx
        injection hx with hx
        exact .inr (by omega)
      · simp only [if_neg hii] at hx
        exact .inl (.inr ⟨i, hi, hx⟩)

/-- UPDATE: a zero goes below the buckets, any other value in its bucket. -/
theorem Update_any {n : Nat} (h : HistAt w b pt lo ct sm) (hlo : lo ≤ 1000) (hct : ∀ N, ct N ≤ 1000) (hsm : sm + n < 2 ^ 53) (hn : n = 0 ∨ ∃ N, bucketO (wf n) = some N) :
    Calls Tryz.prog 21 #[.pointer (some ⟨b, 0, none⟩), .float .f64 (wf n)] w
      (UpdPost w b pt (if n = 0 then lo + 1 else lo) (if n = 0 then ct else bump ct ((bucketO (wf n)).getD 0)) (sm + n)) := by
  rcases hn with rfl | ⟨N, hN⟩
  · have e0 : wf 0 = 0 := by decide
    have hadd := add_wf sm 0 hsm
    rw [e0] at hadd ⊢
    refine (Update_zero b lo (wf sm) (wf sm) w h.lower (h.free _) (by omega) h.sum (h.free _) hadd).mono ?_
    rintro e w' ⟨rfl, rfl⟩
    exact ⟨rfl, upd_zero h ⟨rfl, rfl, rfl, rfl⟩⟩
  · obtain ⟨hlt, hnan, hneg, lg, d, bi, m, hlg, hd, hbi, hlow, hup, hcv, hc⟩ := bucketO_parts hN
    have hn0 : n ≠ 0 := by
      rintro rfl
      have e : bucketO (wf 0) = none := by decide
      rw [e] at hN
      cases hN
    have hadd : fAdd (wf sm) (wf n) = some (wf (sm + n)) := add_wf sm n hsm
    have hi0 : N / 18 < 27 := by omega
    rw [if_neg hn0, if_neg hn0, hN]
    show Calls _ _ _ _ (UpdPost w b pt lo (bump ct N) (sm + n))
    rcases hpt : pt (N / 18) with _ | g
    · have hp := h.ptr (N / 18) hi0
      rw [hpt] at hp
      rcases hc with ⟨hedge, hm⟩ | ⟨hedge, hm⟩
      · refine (Update_new b N m (wf sm) (wf (sm + n)) (wf n) lg d bi w hlt hnan hneg hlg hd hbi hlow hup hcv hedge hm h.lt hp (h.free _) h.sum (h.free _) hadd).mono ?_
        rintro e w' ⟨rfl, hw⟩
        exact ⟨rfl, upd_new h hlt hpt hw⟩
      · refine (Update_new2 b N m (wf sm) (wf (sm + n)) (wf n) lg d bi w hlt hnan hneg hlg hd hbi hlow hup hcv hedge hm h.lt hp (h.free _) h.sum (h.free _) hadd).mono ?_
        rintro e w' ⟨rfl, hw⟩
        exact ⟨rfl, upd_new h hlt hpt hw⟩
    · have hp := h.ptr (N / 18) hi0
      rw [hpt] at hp
      obtain ⟨g1, g2, g3, g4⟩ := h.cell (N / 18) hi0 g hpt
      have hcell := g4 (N % 18) (by omega)
      rw [show 18 * (N / 18) + N % 18 = N by omega] at hcell
      have hcc := hct N
      rcases hc with ⟨hedge, hm⟩ | ⟨hedge, hm⟩
      · refine (Update_there b g N m (wf sm) (wf (sm + n)) (wf n) lg d bi (ct N) w hlt hnan hneg hlg hd hbi hlow hup hcv hedge hm hp hcell (g3 _) (by omega) h.sum (h.free _) hadd).mono ?_
        rintro e w' ⟨rfl, hw⟩
        exact ⟨rfl, upd_there h hlt hpt hw⟩
      · refine (Update_there2 b g N m (wf sm) (wf (sm + n)) (wf n) lg d bi (ct N) w hlt hnan hneg hlg hd hbi hlow hup hcv hedge hm hp hcell (g3 _) (by omega) h.sum (h.free _) hadd).mono ?_
        rintro e w' ⟨rfl, hw⟩
        exact ⟨rfl, upd_there h hlt hpt hw⟩
end
end Go.Proofs.YthggdkpikjekmaaGreatRDoor
