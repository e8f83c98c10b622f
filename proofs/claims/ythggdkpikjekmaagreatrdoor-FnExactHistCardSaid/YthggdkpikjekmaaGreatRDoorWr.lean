/- Writers: buffer.Write, io.WriteString; FormatUint below a hundred. -/
import Derived.Test.YthggdkpikjekmaaGreatRDoorSet
import Derived.Laws.AppendOwnNone
import Derived.Maps.AppendAt
import Derived.Lib.ConvBytes
import Derived.Lib.AtoiErrMem
import Derived.Stop.Asserts
namespace Go.Proofs.YthggdkpikjekmaaGreatRDoor
open Go.RowKit Go.Lib
set_option maxRecDepth 100000
set_option linter.unusedVariables false

/-- A buffer at block bb that holds the text l, its row of bytes within R. -/
structure Wr (w : World) (bb : Nat) (R : Nat → Prop) (l : List UInt8) : Prop where
  lt : bb < w.heap.size
  fr : w.frozen? ⟨bb, 0, none⟩ = false
  row : ∃ v, w.cell? ⟨bb, 0, none⟩ = some v ∧ w.ownsRow 0 5 1 v l.length (l.map byteV) ∧ ∀ k, v.ownBlock = some k → R k

theorem Wr.below {w w' : World} {bb : Nat} {R : Nat → Prop} {l : List UInt8} (h : Wr w bb R l) (hb : Below w.heap.size w w') : Wr w' bb R l := by
  obtain ⟨h1, h2, v, h3, h4, h5⟩ := h
  exact ⟨Nat.lt_of_lt_of_le h1 hb.size, (hb.frozen (p := ⟨bb, 0, none⟩) h1).trans h2, v, (hb.cell (p := ⟨bb, 0, none⟩) h1).trans h3, own_at h4 fun g hg => hb.block g (h4.lt g hg).2, h5⟩

/-- What a write leaves. -/
def WrPost (w : World) (bb : Nat) (R : Nat → Prop) (l : List UInt8) (w' : World) : Prop := Wr w' bb R l ∧ Keeps (fun k => k = bb ∨ R k) w w'

@[go_sem] theorem meth_write (v : Value) (w : World) : (method 303 71 v "Write").run Tryz.prog w = .ok (173, v) w := by kernel_rfl

theorem own_weak {w : World} {B : Nat} {e : TypeId} {v : Value} {n : Nat} {xs : List Value} (h : w.ownsRow B e 1 v n xs) : w.ownsRow 0 e 1 v n xs := own_mono h (Nat.zero_le _)

theorem write_any (bb : Nat) (R : Nat → Prop) (l s : List UInt8) (ad : Addr) (m c : Nat) (w : World) (h : Wr w bb R l) (hR : ∀ k, w.heap.size ≤ k → R k) (hbR : ¬ R bb) (hm : s.length = m) (hm1 : 0 < m) (hs : l.length + m ≤ 1000000)
    (hc : ∀ j (hj : j < s.length), w.cell? (ad.add j) = some (byteV (s[j]))) :
    Calls Tryz.prog 173 #[.pointer (some ⟨bb, 0, none⟩), .slice (some ad) m c] w fun e w' => e = .returned (.tuple #[.int .i64 (m : Int), .nilIface]) ∧ WrPost w bb R (l ++ s) w' := by
  obtain ⟨h1, h2, v, h3, h4, h5⟩ := h
  obtain ⟨i0, hi, hz0, hz1, hz2⟩ := info_parts info_byte
  have hnews : ∀ j u, (s.map byteV)[j]? = some u → w.cell? (ad.add j) = some u := fun j u hu => by
    simp only [List.getElem?_map, Option.map_eq_some_iff] at hu
    obtain ⟨x, hx, rfl⟩ := hu
    obtain ⟨hj, hx'⟩ := List.getElem?_eq_some_iff.1 hx
    rw [hc j hj, hx']
  have hone : ∀ u ∈ s.map byteV, u.oneCell' = true := fun u hu => by
    simp only [List.mem_map] at hu
    obtain ⟨x, _, rfl⟩ := hu
    rfl
  have HR := Lib.hid hR
  clear hR
  go_enter Tryz.func173, Tryz.ntmps173
  go_wp2_with (at_builtin; refine wpList_append_own_at _ rfl _ _ 22 rfl 0 5 i0 (.int .u8 0) 1 1 Tryz.underlying22 hi hz0 hz1 hz2 rfl (by decide) _ _ _ rfl h4 ad m c (s.map byteV) rfl ?c1 hnews hone ?c3 ?c4 (Nat.zero_le _) ?_)
  case c1 => rw [List.length_map]; omega
  case c3 => unfold maxLen; omega
  case c4 => omega
  intro v' w1 hown hgr _ hob
  obtain ⟨g, c', rfl, -, hg2, -⟩ := own_form hown (by omega)
  have hvb : v.ownBlock ≠ some bb := fun e => hbR (h5 bb e)
  have hblk : w1.heap[bb]? = w.heap[bb]? := hgr.block bb h1 (fun e => hvb e.symm)
  have d0 := (World.cell?_of_block (a := ⟨bb, 0, none⟩) hblk).trans h3
  have d1 := (World.frozen?_of_block (a := ⟨bb, 0, none⟩) hblk).trans h2
  have hgb : g ≠ bb := fun e => by
    rcases hob with hob | hob
    · exact hvb (by rw [← hob, ← e]; rfl)
    · have : some g = some w.heap.size := hob
      injection this
      omega
  have hRg : R g := by
    rcases hob with hob | hob
    · exact h5 g (by rw [← hob]; rfl)
    · have : some g = some w.heap.size := hob
      injection this with this
      exact HR.out g (by omega)
  have hzz := hgr.size
  have P1 : Hid (WrPost w bb R (l ++ s) (w1.setCell ⟨bb, 0, none⟩ (.slice (some ⟨g, 0, none⟩) (l.length + m) c'))) := Lib.hid (by
    refine ⟨⟨by rw [cs_size]; omega, by simpa using d1, _, cs_eq _ _ _ _ (by rw [d0]; rfl), ?_, fun k hk => ?_⟩, ⟨hgr.os, hgr.tape, hgr.output, by rw [cs_size]; omega, fun k hk hn => ?_⟩⟩
    · rw [List.length_append, hm, List.map_append]
      refine own_at hown fun g' hg' => cs_heap _ _ _ _ ?_
      have : some g = some g' := hg'
      injection this with this
      show g' ≠ bb
      omega
    · have : some g = some k := hk
      injection this with this
      rw [← this]
      exact hRg
    · rw [cs_heap _ _ _ _ (fun e => hn (.inl e)), hgr.block k hk (fun e => hn (.inr (h5 k e.symm)))])
  clear hown hgr hob hblk h3 h4 h2 hc hnews hone hRg
  go_wp2_with fail
  go_ret2
  exact ⟨rfl, P1.out⟩

theorem write_nil (bb : Nat) (R : Nat → Prop) (l : List UInt8) (w : World) (h : Wr w bb R l) :
    Calls Tryz.prog 173 #[.pointer (some ⟨bb, 0, none⟩), .slice none 0 0] w fun e w' => e = .returned (.tuple #[.int .i64 0, .nilIface]) ∧ ∃ v, w.cell? ⟨bb, 0, none⟩ = some v ∧ w' = w.setCell ⟨bb, 0, none⟩ v := by
  obtain ⟨h1, h2, v, h3, h4, h5⟩ := h
  obtain ⟨i0, hi, hz0, hz1, hz2⟩ := info_parts info_byte
  have hform : ∃ A c, v = .slice A l.length c := by
    rcases h4.2 with ⟨rfl, h0⟩ | ⟨g, cap, cur, rfl, _⟩
    · exact ⟨none, 0, by rw [h0]⟩
    · exact ⟨_, _, rfl⟩
  obtain ⟨A, c, rfl⟩ := hform
  go_enter Tryz.func173, Tryz.ntmps173
  go_wp2_with (at_builtin; refine wpList_append_own_none rfl _ _ 22 rfl 0 5 i0 1 Tryz.underlying22 hi _ _ _ rfl h4 rfl ?_)
  go_wp2_with fail
  go_ret2
  exact ⟨rfl, _, h3, rfl⟩

@[go_sem] theorem assert_sw (v : Value) (w : World) : (Instr.typeAssert (.iface 71 v) 70 128 true).run Tryz.prog w = .ok (.tuple #[.nilIface, .bool false]) w := run_typeAssert_lacksB Tryz.underlying128 (by kernel_rfl) (by kernel_rfl) v 70 w

/-- io.WriteString. -/
theorem ws_any (bb : Nat) (R : Nat → Prop) (l s : List UInt8) (w : World) (h : Wr w bb R l) (hR : ∀ k, w.heap.size ≤ k → R k) (hbR : ¬ R bb) (hm1 : 0 < s.length) (hs : l.length + s.length ≤ 1000000) :
    Calls Tryz.prog 62 #[.iface 71 (.pointer (some ⟨bb, 0, none⟩)), .string ⟨s.toArray⟩] w fun e w' => e = .returned (.tuple #[.int .i64 (s.length : Int), .nilIface]) ∧ WrPost w bb R (l ++ s) w' := by
  have hcv := fun w => Lib.run_convert_string_bytes (P := Tryz.prog) w 9 22 5 ⟨s.toArray⟩ Tryz.underlying9 Tryz.underlying22 Tryz.underlying5
  have hsz : (⟨s.toArray⟩ : ByteArray).size = s.length := by simp [ByteArray.size]
  rw [hsz] at hcv
  have hb := bytesWorld_below w 5 ⟨s.toArray⟩
  have HW := Lib.hid (write_any bb R l s ⟨w.heap.size, 0, none⟩ s.length (grownCap w s.length 0 5) (Lib.bytesWorld w 5 ⟨s.toArray⟩) (h.below hb) (fun k hk => hR k (Nat.le_trans hb.size hk)) hbR rfl hm1 hs (fun j hj => by
    rw [Addr.add_lit, Nat.zero_add, Lib.bytesWorld_cell _ _ _ _ (by rw [hsz]; exact hj)]
    simp [byteV, List.getD_eq_getElem?_getD, hj]))
  have HB := Lib.hid hb
  have HRw := Lib.hid hR
  clear hR hb h
  go_enter Tryz.func62, Tryz.ntmps62
  go_wp2_with (go_at_call 173; refine HW.out.mono ?_; rintro e w1 ⟨rfl, h1, h2⟩)
  go_ret2
  exact ⟨rfl, h1, (Keeps.of_below (S := fun k => k = bb ∨ R k) HB.out).trans h2 (fun _ _ h => h) (fun _ _ h => h)⟩

/-- strconv.FormatUint below a hundred. -/
theorem fu_any (i : Nat) (hi : i < 100) (w : World) :
    Calls Tryz.prog 18 #[.int .u64 (i : Int), .int .i64 10] w fun e w' => e = .returned (.string ⟨(Lib.decDigits i).toArray⟩) ∧ w = w' := by
  have hi' : (i : Int) < 100 := by omega
  have HF : Hid (∀ w : World, Calls Tryz.prog 29 #[.int .u64 (i : Int), .int .i64 10] w fun e w' => e = .returned (.string ⟨(Lib.decDigits i).toArray⟩) ∧ w = w') := Lib.hid fun w => by
    go_enter Tryz.func29, Tryz.ntmps29
    go_wp2_with (go_at_call 45; refine (Tryz.internal_strconv_small i hi _).mono ?_; rintro e w' ⟨rfl, rfl⟩)
    go_ret
    exact ⟨rfl, rfl⟩
  go_enter Tryz.func18, Tryz.ntmps18
  go_wp2_with (go_at_call 29; refine (HF.out _).mono ?_; rintro e w' ⟨rfl, rfl⟩)
  go_ret
  exact ⟨rfl, rfl⟩
end Go.Proofs.YthggdkpikjekmaaGreatRDoor
