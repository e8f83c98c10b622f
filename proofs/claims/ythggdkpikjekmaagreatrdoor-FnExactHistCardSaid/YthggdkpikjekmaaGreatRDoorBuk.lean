/- impl.Buckets: its closure, and the whole. -/
import Derived.Test.YthggdkpikjekmaaGreatRDoorVis
import Derived.Test.YthggdkpikjekmaaGreatRDoorVals
import Derived.Shelf.Abstract
namespace Go.Proofs.YthggdkpikjekmaaGreatRDoor
open Go.RowKit WholeFloats
set_option maxRecDepth 100000
set_option linter.unusedVariables false

theorem info_string : (Tryz.prog.info? 9).map (fun i => (i.zero, i.size, i.bytes)) = some (some (.string ⟨#[]⟩), 1, 16) := by kernel_rfl
theorem info_u64 : (Tryz.prog.info? 25).map (fun i => (i.zero, i.size, i.bytes)) = some (some (.int .u64 0), 1, 8) := by kernel_rfl

def nameV (l : Vis) : List Value := l.map fun x => .string ⟨x.1.toArray⟩
def numV (l : Vis) : List Value := l.map fun x => .int .u64 (x.2 : Int)

theorem own_at {B : Nat} {e : TypeId} {k : Nat} {v : Value} {n : Nat} {xs : List Value} {w w' : World} (h : w.ownsRow B e k v n xs) (hk : ∀ g, v.ownBlock = some g → w'.heap[g]? = w.heap[g]?) : w'.ownsRow B e k v n xs := by
  refine ⟨h.1, ?_⟩
  rcases h.2 with h | ⟨g, cap, cur, rfl, h1, h2, h3⟩
  · exact .inl h
  · exact .inr ⟨g, cap, cur, rfl, h1, by rw [hk g rfl]; exact h2, h3⟩

/-- What the closure keeps between two calls. -/
structure BI (W0 : World) (p q : Nat) (l : Vis) (w : World) : Prop where
  keeps : Keeps (fun k => k = p ∨ k = q) W0 w
  fp : w.frozen? ⟨p, 0, none⟩ = false
  fq : w.frozen? ⟨q, 0, none⟩ = false
  rows : ∃ rv cv, w.cell? ⟨p, 0, none⟩ = some rv ∧ w.cell? ⟨q, 0, none⟩ = some cv ∧ w.ownsRow W0.heap.size 9 1 rv l.length (nameV l) ∧ w.ownsRow W0.heap.size 25 1 cv l.length (numV l)

theorem BI.still {W0 w w' : World} {p q : Nat} {l : Vis} (hp : p < W0.heap.size) (hq : q < W0.heap.size) (h : BI W0 p q l w) (hb : Below w.heap.size w w') : BI W0 p q l w' := by
  obtain ⟨h1, h2, h3, rv, cv, h4, h5, h6, h7⟩ := h
  have hp' := Nat.lt_of_lt_of_le hp h1.size
  have hq' := Nat.lt_of_lt_of_le hq h1.size
  refine ⟨h1.trans (Keeps.of_below hb) (fun _ _ h => h) (fun _ _ h => h), (hb.frozen (p := ⟨p, 0, none⟩) hp').trans h2, (hb.frozen (p := ⟨q, 0, none⟩) hq').trans h3, rv, cv, (hb.cell (p := ⟨p, 0, none⟩) hp').trans h4, (hb.cell (p := ⟨q, 0, none⟩) hq').trans h5, ?_, ?_⟩
  · exact own_at h6 fun g hg => hb.block g (h6.lt g hg).2
  · exact own_at h7 fun g hg => hb.block g (h7.lt g hg).2

/-- Behind the first store. -/
theorem BI.first {W0 w w1 : World} {p q : Nat} {l : Vis} {rv cv v' : Value} {s : List UInt8} {n : Nat} (hp : p < W0.heap.size) (hq : q < W0.heap.size) (hpq : p ≠ q) (o : Obj)
    (h1 : Keeps (fun k => k = p ∨ k = q) W0 w) (h2 : w.frozen? ⟨p, 0, none⟩ = false) (h3 : w.frozen? ⟨q, 0, none⟩ = false)
    (h4 : w.cell? ⟨p, 0, none⟩ = some rv) (h5 : w.cell? ⟨q, 0, none⟩ = some cv) (h6 : w.ownsRow W0.heap.size 9 1 rv l.length (nameV l)) (h7 : w.ownsRow W0.heap.size 25 1 cv l.length (numV l))
    (hown : w1.ownsRow W0.heap.size 9 1 v' (l.length + 1) (nameV l ++ [.string ⟨s.toArray⟩])) (hg : (w.alloc o).grownBy w1 rv.ownBlock) :
    w1.cell? ⟨p, 0, none⟩ = some rv ∧ w1.frozen? ⟨p, 0, none⟩ = false ∧ (w1.setCell ⟨p, 0, none⟩ v').cell? ⟨q, 0, none⟩ = some cv := by
  have hz := h1.size
  have hal : ∀ k, k < w.heap.size → (w.alloc o).heap[k]? = w.heap[k]? := fun k hk => Below.heap_alloc _ _ _ hk
  have hb : ∀ k, k < W0.heap.size → w1.heap[k]? = w.heap[k]? := fun k hk =>
    (hg.block k (by simp; omega) (fun e => by have := (h6.lt k e.symm).1; omega)).trans (hal k (by omega))
  refine ⟨(World.cell?_of_block (a := ⟨p, 0, none⟩) (hb p hp)).trans h4, (World.frozen?_of_block (a := ⟨p, 0, none⟩) (hb p hp)).trans h2, ?_⟩
  rw [cs_ne _ _ _ _ _ _ (.inl hpq)]
  exact (World.cell?_of_block (a := ⟨q, 0, none⟩) (hb q hq)).trans h5


theorem own_ne {w : World} {B : Nat} {e e' : TypeId} {v v' : Value} {n n' : Nat} {xs xs' : List Value} (h : w.ownsRow B e 1 v n xs) (h' : w.ownsRow B e' 1 v' n' xs') (he : e ≠ e') (g : Nat) (hg : v.ownBlock = some g) : v'.ownBlock ≠ some g := by
  rcases h.2 with ⟨rfl, _⟩ | ⟨g1, cap, cur, rfl, _, h2, _⟩
  · cases hg
  · rcases h'.2 with ⟨rfl, _⟩ | ⟨g2, cap', cur', rfl, _, h2', _⟩
    · intro e; cases e
    · intro e1
      injection hg with hg
      injection e1 with e1
      subst hg
      have e1 : g2 = g1 := e1
      subst e1
      rw [h2] at h2'
      injection h2' with h2'
      injection h2' with _ h3 _
      exact he h3

theorem one_new (w : World) (v : Value) (t : TypeId) : ∀ (j : Nat) (u : Value), [v][j]? = some u → (w.alloc (.cells #[v] t)).cell? ((⟨w.heap.size, 0, none⟩ : Addr).add j) = some u := fun j u h => by
  match j, h with
  | 0, h =>
    rw [Addr.add_lit, Nat.zero_add, World.cell?_alloc_new]
    exact h

theorem BI.second {W0 w w1 : World} {p q : Nat} {l : Vis} {rv cv v' : Value} {s : List UInt8} {n : Nat} (hp : p < W0.heap.size) (hq : q < W0.heap.size) (hpq : p ≠ q) (o o2 : Obj)
    (h1 : Keeps (fun k => k = p ∨ k = q) W0 w) (h2 : w.frozen? ⟨p, 0, none⟩ = false) (h3 : w.frozen? ⟨q, 0, none⟩ = false)
    (h4 : w.cell? ⟨p, 0, none⟩ = some rv) (h5 : w.cell? ⟨q, 0, none⟩ = some cv) (h6 : w.ownsRow W0.heap.size 9 1 rv l.length (nameV l)) (h7 : w.ownsRow W0.heap.size 25 1 cv l.length (numV l))
    (hown : w1.ownsRow W0.heap.size 9 1 v' (l.length + 1) (nameV l ++ [.string ⟨s.toArray⟩])) (hg : (w.alloc o).grownBy w1 rv.ownBlock) :
    w1.cell? ⟨p, 0, none⟩ = some rv ∧ w1.frozen? ⟨p, 0, none⟩ = false ∧ (w1.setCell ⟨p, 0, none⟩ v').cell? ⟨q, 0, none⟩ = some cv ∧ (w1.setCell ⟨p, 0, none⟩ v').ownsRow W0.heap.size 25 1 cv l.length (numV l) ∧ W0.heap.size ≤ (w1.setCell ⟨p, 0, none⟩ v').heap.size ∧
    (∀ v2 w2, w2.ownsRow W0.heap.size 25 1 v2 (l.length + 1) (numV l ++ [.int .u64 (n : Int)]) → ((w1.setCell ⟨p, 0, none⟩ v').alloc o2).grownBy w2 cv.ownBlock →
      w2.cell? ⟨q, 0, none⟩ = some cv ∧ w2.frozen? ⟨q, 0, none⟩ = false ∧ BI W0 p q (l ++ [(s, n)]) (w2.setCell ⟨q, 0, none⟩ v2)) := by
  obtain ⟨a1, a2, a3⟩ := BI.first (n := n) hp hq hpq o h1 h2 h3 h4 h5 h6 h7 hown hg
  have hz := h1.size
  have hza : (w.alloc o).heap.size = w.heap.size + 1 := by simp
  have hz1 := hg.size
  have hal : ∀ k, k < w.heap.size → (w.alloc o).heap[k]? = w.heap[k]? := fun k hk => Below.heap_alloc _ _ _ hk
  have hb : ∀ k, k < W0.heap.size → w1.heap[k]? = w.heap[k]? := fun k hk =>
    (hg.block k (by omega) (fun e => by have := (h6.lt k e.symm).1; omega)).trans (hal k (by omega))
  have h7a : (w1.setCell ⟨p, 0, none⟩ v').ownsRow W0.heap.size 25 1 cv l.length (numV l) := own_at h7 fun g hgc => by
    have hlt := h7.lt g hgc
    rw [cs_heap _ _ _ _ (by show g ≠ p; omega)]
    exact (hg.block g (by omega) (fun e => own_ne h7 h6 (by decide) g hgc e.symm)).trans (hal g hlt.2)
  refine ⟨a1, a2, a3, h7a, by rw [cs_size]; omega, fun v2 w2 hown2 hg2 => ?_⟩
  have hz2 := hg2.size
  have hza2 : ((w1.setCell ⟨p, 0, none⟩ v').alloc o2).heap.size = w1.heap.size + 1 := by simp [World.setCell]
  have hb2 : ∀ k, k < W0.heap.size → k ≠ p → w2.heap[k]? = w.heap[k]? := fun k hk hkp => by
    rw [hg2.block k (by omega) (fun e => by have := (h7.lt k e.symm).1; omega), Below.heap_alloc _ _ _ (by rw [cs_size]; omega), cs_heap _ _ _ _ hkp]
    exact hb k hk
  have hbp : w2.heap[p]? = (w1.setCell ⟨p, 0, none⟩ v').heap[p]? := by
    rw [hg2.block p (by omega) (fun e => by have := (h7.lt p e.symm).1; omega), Below.heap_alloc _ _ _ (by rw [cs_size]; omega)]
  have cq : w2.cell? ⟨q, 0, none⟩ = some cv := (World.cell?_of_block (a := ⟨q, 0, none⟩) (hb2 q hq (Ne.symm hpq))).trans h5
  have fq : w2.frozen? ⟨q, 0, none⟩ = false := (World.frozen?_of_block (a := ⟨q, 0, none⟩) (hb2 q hq (Ne.symm hpq))).trans h3
  have hos : w2.os = w.os := hg2.os.trans (hg.os)
  have htp : w2.tape = w.tape := hg2.tape.trans (hg.tape)
  have hou : w2.output = w.output := hg2.output.trans (hg.output)
  have ef : ∀ (x : World) (a : Addr) (v : Value) (b : Addr), (x.setCell a v).frozen? b = x.frozen? b := fun x a v b => by simp
  have hz3 : (w2.setCell ⟨q, 0, none⟩ v2).heap.size = w2.heap.size := cs_size _ _ _
  refine ⟨cq, fq, ⟨hos.trans h1.os, htp.trans h1.tape, hou.trans h1.output, by omega, fun k hk hn => ?_⟩, ?_, ?_, v', v2, ?_, ?_, ?_, ?_⟩
  · rw [cs_heap _ _ _ _ (fun e => hn (.inr e)), hb2 k hk (fun e => hn (.inl e))]
    exact h1.block k hk hn
  · rw [ef, World.frozen?_of_block (a := ⟨p, 0, none⟩) hbp, ef]
    exact a2
  · rw [ef]
    exact fq
  · rw [cs_ne _ _ _ _ _ _ (.inl (Ne.symm hpq)), World.cell?_of_block (a := ⟨p, 0, none⟩) hbp, cs_eq _ _ _ _ (by rw [a1]; rfl)]
  · rw [cs_eq _ _ _ _ (by rw [cq]; rfl)]
  · rw [List.length_append, nameV, List.map_append]
    refine own_at hown fun g hgv => ?_
    have hlt := hown.lt g hgv
    have hcv : some g ≠ cv.ownBlock := fun e => by
      have h7b : w1.ownsRow W0.heap.size 25 1 cv l.length (numV l) := own_at h7a fun g' hg' => by
        have := (h7a.lt g' hg').1
        rw [cs_heap _ _ _ _ (by show g' ≠ p; omega)]
      exact own_ne hown h7b (by decide) g hgv e.symm
    rw [cs_heap _ _ _ _ (by show g ≠ q; omega), hg2.block g (by omega) hcv, Below.heap_alloc _ _ _ (by rw [cs_size]; omega), cs_heap _ _ _ _ (by show g ≠ p; omega)]
  · rw [List.length_append, numV, List.map_append]
    refine own_at hown2 fun g hgv => ?_
    have hlt := hown2.lt g hgv
    rw [cs_heap _ _ _ _ (by show g ≠ q; omega)]

set_option maxHeartbeats 800000 in
theorem buckets1_any (W0 : World) (p q : Nat) (l : Vis) (s : List UInt8) (n : Nat) (w : World) (hp : p < W0.heap.size) (hq : q < W0.heap.size) (hpq : p ≠ q) (h : BI W0 p q l w) (hl : l.length ≤ 600) (hn : n ≤ 99) :
    Calls Tryz.prog 13 #[.string ⟨s.toArray⟩, .int .u64 (n : Int), .pointer (some ⟨p, 0, none⟩), .pointer (some ⟨q, 0, none⟩)] w fun e w' => e = .returned (.tuple #[]) ∧ BI W0 p q (l ++ [(s, n)]) w' := by
  obtain ⟨h1, h2, h3, rv, cv, h4, h5, h6, h7⟩ := h
  obtain ⟨i0, hi, hz0, hz1, hz2⟩ := info_parts info_string
  obtain ⟨i1, hi1, hz01, hz11, hz21⟩ := info_parts info_u64
  have hz := h1.size
  have H1 := Lib.hid h1
  go_enter Tryz.func13, Tryz.ntmps13
  go_wp2_with (first
    | (at_builtin; refine wpList_append_own _ rfl _ _ 26 rfl W0.heap.size 9 i0 (.string ⟨#[]⟩) 1 16 Tryz.underlying26 hi hz0 hz1 hz2 rfl (by decide) _ _ _ rfl (h6.alloc _) ⟨w.heap.size, 0, none⟩ 1 1 [.string ⟨s.toArray⟩] rfl rfl (one_new _ _ _) ?c2 ?c3 ?c4 ?c5 ?_))
  case c2 => simp [Value.oneCell']
  case c3 => unfold maxLen; omega
  case c4 => omega
  case c5 => simp; omega
  intro v' w1 hown hg _
  obtain ⟨g1, c1, rfl, hg1, hg2, -⟩ := own_form hown (by omega)
  obtain ⟨a1, a2, a3, a4, a5, a6⟩ := BI.second (n := n) (s := s) hp hq hpq _ (.cells #[.int .u64 (n : Int)] 25) h1 h2 h3 h4 h5 h6 h7 hown hg
  have A6 := Lib.hid a6
  clear a6 h6 h7 h1 hown hg h2 h3
  have zw : (w1.setCell ⟨p, 0, none⟩ (.slice (some ⟨g1, 0, none⟩) (l.length + 1) c1)).heap.size = w1.heap.size := cs_size _ _ _
  go_wp2_with (first
    | (at_builtin; refine wpList_append_own _ rfl _ _ 27 rfl W0.heap.size 25 i1 (.int .u64 0) 1 8 Tryz.underlying27 hi1 hz01 hz11 hz21 rfl (by decide) _ _ _ rfl (a4.alloc _) ⟨w1.heap.size, 0, none⟩ 1 1 [.int .u64 (n : Int)] rfl rfl ?d1 ?d2 ?d3 ?d4 ?d5 ?_))
  case d1 => rw [← zw]; exact one_new _ _ _
  case d2 => simp [Value.oneCell']
  case d3 => unfold maxLen; omega
  case d4 => omega
  case d5 => rw [World.size_alloc, zw]; omega
  intro v2 w2 hown2 hgr2 _
  obtain ⟨g2, c2, rfl, hg3, hg4, -⟩ := own_form hown2 (by omega)
  obtain ⟨b1, b2, b3⟩ := A6.out _ _ hown2 hgr2
  have B3 := Lib.hid b3
  clear b3 hown2 hgr2 A6
  go_wp2_with fail
  go_end0
  exact ⟨rfl, B3.out⟩

abbrev histZero : Array Value := #[.pointer none, .pointer none, .pointer none, .pointer none, .pointer none, .pointer none, .pointer none, .pointer none, .pointer none, .pointer none, .pointer none, .pointer none, .pointer none, .pointer none, .pointer none, .pointer none, .pointer none, .pointer none, .pointer none, .pointer none, .pointer none, .pointer none, .pointer none, .pointer none, .pointer none, .pointer none, .pointer none, .int .u64 0, .int .u64 0, .float .f64 0]

theorem histZero_at (i : Nat) (hi : i < 27) : histZero[i]? = some (.pointer none) := by
  have h : ∀ i : Fin 27, histZero[i.val]? = some (.pointer none) := fun i => by
    rcases i with ⟨i, hi⟩
    match i, hi with
    | 0, _ => rfl
    | 1, _ => rfl
    | 2, _ => rfl
    | 3, _ => rfl
    | 4, _ => rfl
    | 5, _ => rfl
    | 6, _ => rfl
    | 7, _ => rfl
    | 8, _ => rfl
    | 9, _ => rfl
    | 10, _ => rfl
    | 11, _ => rfl
    | 12, _ => rfl
    | 13, _ => rfl
    | 14, _ => rfl
    | 15, _ => rfl
    | 16, _ => rfl
    | 17, _ => rfl
    | 18, _ => rfl
    | 19, _ => rfl
    | 20, _ => rfl
    | 21, _ => rfl
    | 22, _ => rfl
    | 23, _ => rfl
    | 24, _ => rfl
    | 25, _ => rfl
    | 26, _ => rfl
    | n + 27, h => exact absurd h (by omega)
  exact h ⟨i, hi⟩

theorem box_hist (w : World) : HistAt (w.alloc (.cells histZero 42)) w.heap.size (fun _ => none) 0 (fun _ => 0) 0 := by
  have hc : ∀ o, (w.alloc (.cells histZero 42)).cell? ⟨w.heap.size, o, none⟩ = histZero[o]? := fun o => World.cell?_alloc_new _ _ _ _
  refine ⟨by simp, (hc _).trans rfl, (hc _).trans rfl, (hc _).trans rfl, fun o => World.frozen?_alloc_new _ _ _ _, fun i hi => ?_, fun _ _ _ _ _ => rfl, fun i hi g hg => (by cases hg), fun _ _ _ _ _ h _ => (by cases h)⟩
  exact (hc i).trans (histZero_at i hi)

theorem own_mono {w : World} {B B' : Nat} {e : TypeId} {k : Nat} {v : Value} {n : Nat} {xs : List Value} (h : w.ownsRow B e k v n xs) (hB : B' ≤ B) : w.ownsRow B' e k v n xs := by
  refine ⟨h.1, ?_⟩
  rcases h.2 with h | ⟨g, cap, cur, rfl, h1, h2, h3⟩
  · exact .inl h
  · exact .inr ⟨g, cap, cur, rfl, by omega, h2, h3⟩

/-- A slice of float64 that holds ns. -/
def FsV (w : World) (v : Value) (ns : List Nat) : Prop := (∃ A c, v = .slice A 0 c ∧ ns = []) ∨ ∃ g c, v = .slice (some ⟨g, 0, none⟩) ns.length c ∧ 0 < ns.length ∧ FsAt w g ns

theorem FsV.below {w w' : World} {v : Value} {ns : List Nat} (h : FsV w v ns) (hb : Below w.heap.size w w') : FsV w' v ns := by
  rcases h with h | ⟨g, c, h1, h2, h3⟩
  · exact .inl h
  · exact .inr ⟨g, c, h1, h2, h3.keep hb.size (hb.block g h3.1)⟩

theorem fill_any (b : Nat) (pt : Nat → Option Nat) (ns : List Nat) (v : Value) (w : World) (h : HistAt w b pt 0 (fun _ => 0) 0) (hl : ns.length ≤ 100) (hsm : ns.sum < 2 ^ 53) (hgood : ∀ n ∈ ns, Good n)
    (hv : (∃ A c, v = .slice A 0 c ∧ ns = []) ∨ ∃ g c, v = .slice (some ⟨g, 0, none⟩) ns.length c ∧ 0 < ns.length ∧ FsAt w g ns ∧ ¬ Own b pt g) :
    Calls Tryz.prog 11 #[.pointer (some ⟨b, 0, none⟩), v] w (FillPost w b pt (loF 0 ns) (ctF (fun _ => 0) ns) ns.sum) := by
  rcases hv with ⟨A, c, rfl, rfl⟩ | ⟨g, c, rfl, h0, hf, hg⟩
  · exact fill_none b c A pt 0 (fun _ => 0) 0 w h
  · have := fill_some b g c pt 0 (fun _ => 0) 0 ns w h hl h0 (by omega) (fun _ => by omega) (by omega) hgood hf hg
    rw [Nat.zero_add] at this
    exact this

/-- What is visited behind the values ns. -/
def visN (ns : List Nat) : Vis := visD (loF 0 ns) (ctF (fun _ => 0) ns) 27

def BukPost (w : World) (ns : List Nat) (e : Ending) (w' : World) : Prop :=
  ∃ rv cv, e = .returned (.tuple #[rv, cv]) ∧ w'.ownsRow w.heap.size 9 1 rv (visN ns).length (nameV (visN ns)) ∧ w'.ownsRow w.heap.size 25 1 cv (visN ns).length (numV (visN ns)) ∧ Below w.heap.size w w'

set_option maxHeartbeats 800000 in
theorem buckets_any (ns : List Nat) (v : Value) (w : World) (hT : Tabs w) (hl : ns.length ≤ 99) (hsm : ns.sum < 2 ^ 53) (hgood : ∀ n ∈ ns, Good n) (hv : FsV w v ns) :
    Calls Tryz.prog 6 #[v] w (BukPost w ns) := by
  have hmf : ∀ (fn : Fn) (first cap : Array Value) (w : World), (Instr.makeFunc fn first cap).run Tryz.prog w = .ok (.func fn first cap) w := fun _ _ _ _ => rfl
  have Hv := Lib.hid hv
  have hT8 := Lib.hid hT.size
  have HT := Lib.hid hT
  have Hsm := Lib.hid hsm
  have Hgood := Lib.hid hgood
  clear hv hT hsm hgood
  go_enter Tryz.func6, Tryz.ntmps6
  go_wp2_with fail
  generalize hW2 : ((w.alloc (.cells #[.slice none 0 0] 26)).alloc (.cells #[.slice none 0 0] 27)) = W2
  have hz2 : W2.heap.size = w.heap.size + 2 := by rw [← hW2]; simp
  have hb2 : Below w.heap.size w W2 := by rw [← hW2]; exact ((Below.refl _ _).alloc (Nat.le_refl _) _).alloc (by simp) _
  have hcp : W2.cell? ⟨w.heap.size, 0, none⟩ = some (.slice none 0 0) ∧ W2.frozen? ⟨w.heap.size, 0, none⟩ = false := by
    rw [← hW2]
    exact ⟨(World.cell?_alloc_lt _ _ _ (by simp)).trans ((World.cell?_alloc_new _ _ _ _).trans rfl), (World.frozen?_of_block (a := ⟨w.heap.size, 0, none⟩) (Below.heap_alloc _ _ _ (by simp))).trans (World.frozen?_alloc_new _ _ _ _)⟩
  have hcq : W2.cell? ⟨w.heap.size + 1, 0, none⟩ = some (.slice none 0 0) ∧ W2.frozen? ⟨w.heap.size + 1, 0, none⟩ = false := by
    rw [← hW2]
    have e : w.heap.size + 1 = (w.alloc (.cells #[.slice none 0 0] 26)).heap.size := by simp
    rw [e]
    exact ⟨(World.cell?_alloc_new _ _ _ _).trans rfl, World.frozen?_alloc_new _ _ _ _⟩
  clear hW2
  have hbx := box_hist W2
  rw [hz2] at hbx
  generalize hW3 : W2.alloc (.cells histZero 42) = W3 at hbx
  have hz3 : W3.heap.size = w.heap.size + 3 := by rw [← hW3]; simp [hz2]
  have hb3 : Below w.heap.size w W3 := by rw [← hW3]; exact hb2.alloc (by omega) _
  have hal : ∀ k, k < W2.heap.size → W3.heap[k]? = W2.heap[k]? := fun k hk => by rw [← hW3]; exact Below.heap_alloc _ _ _ hk
  clear hW3
  have hv3 : (∃ A c, v = .slice A 0 c ∧ ns = []) ∨ ∃ g c, v = .slice (some ⟨g, 0, none⟩) ns.length c ∧ 0 < ns.length ∧ FsAt W3 g ns ∧ ¬ Own (w.heap.size + 1 + 1) (fun _ => none) g := by
    rcases Hv.out with h | ⟨g, c, h1, h2, h3⟩
    · exact .inl h
    · refine .inr ⟨g, c, h1, h2, h3.keep hb3.size (hb3.block g h3.1), fun ho => ?_⟩
      rcases ho with h | ⟨i, _, h⟩
      · have := h3.1; omega
      · cases h
  refine (fill_any _ _ ns v W3 hbx (by omega) Hsm.out Hgood.out hv3).mono ?_
  rintro e w1 ⟨rfl, pt', hh, hkf, hown⟩
  have hz := hT8.out
  have hz1 : w.heap.size + 3 ≤ w1.heap.size := by have := hkf.size; omega
  have hOwn : ∀ k, Own (w.heap.size + 1 + 1) pt' k → k = w.heap.size + 2 ∨ w.heap.size + 3 ≤ k := fun k hk => by
    rcases hown k hk with (h | ⟨i, _, h⟩) | h
    · exact .inl h
    · cases h
    · exact .inr (by omega)
  have hblk : ∀ k, k < w.heap.size + 2 → w1.heap[k]? = W2.heap[k]? := fun k hk => by
    rw [hkf.block k (by omega) (fun ho => by
      rcases ho with h | ⟨i, _, h⟩
      · omega
      · cases h)]
    exact hal k (by omega)
  have hB1 : Below w.heap.size w w1 := hb3.trans (hkf.below_of (by omega) (fun k ho => by
    rcases ho with h | ⟨i, _, h⟩
    · omega
    · cases h))
  have hT1 : Tabs w1 := HT.out.below hB1 hz
  have hBI : BI w1 w.heap.size (w.heap.size + 1) [] w1 :=
    ⟨Keeps.refl _ _, (World.frozen?_of_block (a := ⟨w.heap.size, 0, none⟩) (hblk _ (by show w.heap.size < _; omega))).trans hcp.2, (World.frozen?_of_block (a := ⟨w.heap.size + 1, 0, none⟩) (hblk _ (by show w.heap.size + 1 < _; omega))).trans hcq.2,
      _, _, (World.cell?_of_block (a := ⟨w.heap.size, 0, none⟩) (hblk _ (by show w.heap.size < _; omega))).trans hcp.1, (World.cell?_of_block (a := ⟨w.heap.size + 1, 0, none⟩) (hblk _ (by show w.heap.size + 1 < _; omega))).trans hcq.1, World.ownsRow_nil _ _ _ _, World.ownsRow_nil _ _ _ _⟩
  have hV : Visitor 13 #[.pointer (some ⟨w.heap.size, 0, none⟩), .pointer (some ⟨w.heap.size + 1, 0, none⟩)] (w.heap.size + 1 + 1) pt' (loF 0 ns) (ctF (fun _ => 0) ns) ns.sum (BI w1 w.heap.size (w.heap.size + 1)) :=
    ⟨enters_of Tryz.func13 (by kernel_rfl) rfl,
      fun l w' s n h hl1 _ _ hn => buckets1_any w1 _ _ l s n w' (by omega) (by omega) (by omega) h hl1 hn,
      fun l w' w'' h hb => h.still (by omega) (by omega) hb,
      fun l w' h => hh.keep (fun k hk => h.keeps.block k (hh.own_lt k hk) (fun e => by have := hOwn k hk; omega)) h.keeps.size,
      fun l w' h => hT1.keeps h.keeps (fun k hk => by omega)⟩
  have hlo := loF_le 0 ns
  have hct := ctF_le (fun _ => 0) ns
  have HVis := Lib.hid (visit_any _ _ _ _ _ _ _ _ hV (by omega) (fun N => by have := hct N; omega) w1 hBI)
  have HB1 := Lib.hid hB1
  clear hV hBI hT1 hB1 hblk hOwn hkf hown hh hv3 hal hb3 hbx hcq hcp hb2 hlo hct
  go_wp2_with fail
  refine HVis.out.mono ?_
  rintro e w2 ⟨rfl, hk2, f1, f2, rv, cv, q1, q2, q3, q4⟩
  have HB2 := Lib.hid (HB1.out.trans (hk2.below_of (by omega) (fun k hk => by omega)))
  have Q3 := Lib.hid (own_mono q3 HB1.out.size)
  have Q4 := Lib.hid (own_mono q4 HB1.out.size)
  clear q3 q4 hk2
  go_wp2_with fail
  go_quiet (fail)
  go_wp2_with fail
  go_ret2
  exact ⟨rv, cv, rfl, Q3.out, Q4.out, below_drewN HB2.out _⟩
end Go.Proofs.YthggdkpikjekmaaGreatRDoor
