/- strconv.fmtEFG at 'e' and three digits: the text. -/
import Derived.Test.YthggdkpikjekmaaGreatRDoorDig
import Derived.Maps.AppendAt
import Derived.RegionTactic
namespace Go.Proofs.YthggdkpikjekmaaGreatRDoor
open Go.RowKit Go.Lib
set_option maxRecDepth 100000
set_option linter.unusedVariables false

theorem info_byte : (Tryz.prog.info? 5).map (fun i => (i.zero, i.size, i.bytes)) = some (some (.int .u8 0), 1, 1) := by kernel_rfl

/-- A slice of bytes of the call's own that holds l, beside a block B that holds dl. -/
structure Buf (w : World) (base B : Nat) (v : Value) (l dl : List UInt8) : Prop where
  own : w.ownsRow base 5 1 v l.length (l.map byteV)
  ne : v.ownBlock ≠ some B
  at_ : BytesAt w B dl
  lt : B < w.heap.size
  base_le : base ≤ w.heap.size
  form : ∃ A c, v = .slice A l.length c

theorem Buf.alloc {w : World} {base B : Nat} {v : Value} {l dl : List UInt8} (h : Buf w base B v l dl) (o : Obj) : Buf (w.alloc o) base B v l dl :=
  ⟨h.own.alloc o, h.ne, fun j hj => (World.cell?_alloc_lt _ _ _ h.lt).trans (h.at_ j hj), by rw [World.size_alloc]; exact Nat.lt_succ_of_lt h.lt, by rw [World.size_alloc]; exact Nat.le_succ_of_le h.base_le, h.form⟩

theorem buf_append {w : World} {base B : Nat} {v : Value} {l dl : List UInt8} (h : Buf w base B v l dl) (ad : Addr) (m c : Nat) (news : List UInt8) (hm : news.length = m)
    (hc : ∀ j (hj : j < news.length), w.cell? (ad.add j) = some (byteV (news[j]))) (hb : l.length + m ≤ 1000000) :
    ∃ v' w', (Builtin.append_ #[22, 22] 22 #[v, .slice (some ad) m c]).run Tryz.prog w = .ok v' w' ∧ Buf w' base B v' (l ++ news) dl ∧ Below base w w' := by
  obtain ⟨i0, hi, hz0, hz1, hz2⟩ := info_parts info_byte
  have hnews : ∀ j u, (news.map byteV)[j]? = some u → w.cell? (ad.add j) = some u := fun j u hu => by
    simp only [List.getElem?_map, Option.map_eq_some_iff] at hu
    obtain ⟨x, hx, rfl⟩ := hu
    obtain ⟨hj, hx'⟩ := List.getElem?_eq_some_iff.1 hx
    rw [hc j hj, hx']
  have h1 : ∀ u ∈ news.map byteV, u.oneCell' = true := fun u hu => by
    simp only [List.mem_map] at hu
    obtain ⟨x, _, rfl⟩ := hu
    rfl
  obtain ⟨v', w', hrun, h2, h3, h4, h5⟩ := run_append_own_at (P := Tryz.prog) w base 22 22 5 i0 (.int .u8 0) 1 1 Tryz.underlying22 hi hz0 hz1 hz2 rfl (by decide)
    v l.length (l.map byteV) h.own ad m c (news.map byteV) (by rw [List.length_map]; omega) hnews h1 (by unfold maxLen; omega) (by omega) h.base_le
  have hne : v'.ownBlock ≠ some B := by
    rcases h5 with e | e <;> rw [e]
    · exact h.ne
    · intro e'
      injection e' with e'
      have := h.lt
      omega
  have hblk : w'.heap[B]? = w.heap[B]? := h3.block B h.lt (fun e => h.ne e.symm)
  refine ⟨v', w', hrun, ⟨?_, hne, fun j hj => (World.cell?_of_block (a := ⟨B, j, none⟩) hblk).trans (h.at_ j hj), Nat.lt_of_lt_of_le h.lt h3.size, Nat.le_trans h.base_le h3.size, ?_⟩, ?_⟩
  · rw [List.length_append, hm, List.map_append]
    exact h2
  · rcases h2.2 with ⟨rfl, h0⟩ | ⟨g, cap, cur, rfl, _⟩
    · have e : (l ++ news).length = 0 := by rw [List.length_append, hm]; exact h0
      exact ⟨none, 0, by rw [e]⟩
    · exact ⟨_, _, by rw [List.length_append, hm]⟩
  · refine (Below.refl _ _).grown h3 h.base_le (fun k hk => ?_)
    exact (h.own.lt k hk).1

theorem wp_buf {o : Oper} {a : Act} {w : World} {K : Act → World → Prop} {Q : Exit → Act → World → Prop} (s x : Operand)
    (ho : o.op = .call { callee := .builtin .append, args := #[s, x], argTypes := #[22, 22] }) (hty : o.type = 22)
    (base B : Nat) (v : Value) (l dl : List UInt8) (hs : a.eval s = v) (h : Buf w base B v l dl) (ad : Addr) (m c : Nat) (news : List UInt8) (hx : a.eval x = .slice (some ad) m c) (hm : news.length = m)
    (hc : ∀ j (hj : j < news.length), w.cell? (ad.add j) = some (byteV (news[j]))) (hb : l.length + m ≤ 1000000)
    (hk : ∀ v' w', Buf w' base B v' (l ++ news) dl → Below base w w' → K (a.put o.dst v') w') : o.wp Tryz.prog a w K Q := by
  obtain ⟨v', w', hrun, h2, h3⟩ := buf_append h ad m c news hm hc hb
  unfold Oper.wp execOp
  simp only [ho, hty, resolve, invoke, builtin, Sem.run_bind, Sem.run_pure, Result.andThen_ok, List.map_toArray, List.map_cons, List.map_nil, hs, hx, hrun]
  exact hk v' w' h2 h3

theorem wpList_buf {ops : Array Oper} {rest : List Oper} {o : Oper} {a : Act} {w : World} {Q : Exit → Act → World → Prop} (hgd : o.guard = none) (s x : Operand)
    (ho : o.op = .call { callee := .builtin .append, args := #[s, x], argTypes := #[22, 22] }) (hty : o.type = 22)
    (base B : Nat) (v : Value) (l dl : List UInt8) (hs : a.eval s = v) (h : Buf w base B v l dl) (ad : Addr) (m c : Nat) (news : List UInt8) (hx : a.eval x = .slice (some ad) m c) (hm : news.length = m)
    (hc : ∀ j (hj : j < news.length), w.cell? (ad.add j) = some (byteV (news[j]))) (hb : l.length + m ≤ 1000000)
    (hk : ∀ v' w', Buf w' base B v' (l ++ news) dl → Below base w w' → wpList Tryz.prog ops Q rest (a.put o.dst v') w') : wpList Tryz.prog ops Q (o :: rest) a w :=
  wpList_plain hgd fun _ hK => wp_buf s x ho hty base B v l dl hs h ad m c news hx hm hc hb fun v' w' h2 h3 => hK _ _ (hk v' w' h2 h3)

theorem wpList_buf1 {ops : Array Oper} {rest : List Oper} {o : Oper} {a : Act} {w : World} {Q : Exit → Act → World → Prop} (hgd : o.guard = none) (s x : Operand)
    (ho : o.op = .call { callee := .builtin .append, args := #[s, x], argTypes := #[22, 22] }) (hty : o.type = 22)
    (base B : Nat) (v : Value) (l dl : List UInt8) (b : UInt8) (hs : a.eval s = v) (h : Buf w base B v l dl) (hx : a.eval x = .slice (some ⟨w.heap.size, 0, none⟩) 1 1) (hb : l.length + 1 ≤ 1000000)
    (hk : ∀ v' w', Buf w' base B v' (l ++ [b]) dl → Below base w w' → wpList Tryz.prog ops Q rest (a.put o.dst v') w') : wpList Tryz.prog ops Q (o :: rest) a (w.alloc (.cells #[.int .u8 (b.toNat : Int)] 5)) :=
  wpList_buf hgd s x ho hty base B v l dl hs (h.alloc _) ⟨w.heap.size, 0, none⟩ 1 1 [b] hx rfl (fun j hj => by
    obtain rfl : j = 0 := by simpa using hj
    rw [Addr.add_lit, Nat.zero_add, World.cell?_alloc_new]
    rfl) hb fun v' w' h2 h3 => hk v' w' h2 (((Below.refl base w).alloc h.base_le _).trans h3)

theorem wpList_buf2 {ops : Array Oper} {rest : List Oper} {o : Oper} {a : Act} {w : World} {Q : Exit → Act → World → Prop} (hgd : o.guard = none) (s x : Operand)
    (ho : o.op = .call { callee := .builtin .append, args := #[s, x], argTypes := #[22, 22] }) (hty : o.type = 22)
    (base B : Nat) (v : Value) (l dl : List UInt8) (b b' : UInt8) (z z' : Int) (hz : (b.toNat : Int) = z) (hz' : (b'.toNat : Int) = z') (hs : a.eval s = v) (h : Buf w base B v l dl) (hx : a.eval x = .slice (some ⟨w.heap.size, 0, none⟩) 2 2) (hb : l.length + 2 ≤ 1000000)
    (hk : ∀ v' w', Buf w' base B v' (l ++ [b, b']) dl → Below base w w' → wpList Tryz.prog ops Q rest (a.put o.dst v') w') : wpList Tryz.prog ops Q (o :: rest) a (w.alloc (.cells #[.int .u8 z, .int .u8 z'] 5)) :=
  wpList_buf hgd s x ho hty base B v l dl hs (h.alloc _) ⟨w.heap.size, 0, none⟩ 2 2 [b, b'] hx rfl (fun j hj => by
    subst hz
    subst hz'
    rw [Addr.add_lit, Nat.zero_add, World.cell?_alloc_new]
    match j, hj with
    | 0, _ => rfl
    | 1, _ => rfl) hb fun v' w' h2 h3 => hk v' w' h2 (((Below.refl base w).alloc h.base_le _).trans h3)

/-- A number below a hundred in two digits. -/
def two (n : Nat) : List UInt8 := if n < 10 then [48, UInt8.ofNat (48 + n)] else [UInt8.ofNat (48 + n / 10), UInt8.ofNat (48 + n % 10)]
def expo (e : Int) : List UInt8 := if e < 0 then 45 :: two (-e).toNat else 43 :: two e.toNat
/-- The digits behind the point: those that are left, then zeros. -/
def mid (dl : List UInt8) (nz : Nat) : List UInt8 := (dl.take (min nz 4)).drop 1
def efg (dl : List UInt8) (nz : Nat) (dp : Int) : List UInt8 := [dl.getD 0 0, 46] ++ mid dl nz ++ List.replicate (4 - min nz 4) 48 ++ [101] ++ expo (dp - 1)

def EfgPost (w : World) (base : Nat) (l : List UInt8) (e : Ending) (w' : World) : Prop := ∃ v, e = .returned v ∧ (∃ B dl, Buf w' base B v l dl) ∧ Below base w w'


/-- The state of the loop that appends zeros. -/
def ZeroRel (w : World) (base B : Nat) (l dl : List UInt8) (t : Nat) (v : Value) (w' : World) : Prop :=
  (∃ A c, v = .slice A (l.length + t) c) ∧ Buf w' base B v (l ++ List.replicate t 48) dl ∧ Below base w w'

theorem ZeroRel.start {w w' : World} {base B : Nat} {l dl : List UInt8} {v : Value} (h : Buf w' base B v l dl) (hb : Below base w w') : ZeroRel w base B l dl 0 v w' := by
  refine ⟨?_, ?_, hb⟩
  · obtain ⟨A, c, e⟩ := h.form
    exact ⟨A, c, e⟩
  · rw [List.replicate_zero, List.append_nil]
    exact h
theorem ZeroRel.step {w w1 w2 : World} {base B : Nat} {l dl : List UInt8} {t : Nat} {v : Value} (h : Buf w2 base B v (l ++ (List.replicate t 48 ++ [48])) dl) (hb : Below base w w1) (hb' : Below base w1 w2) : ZeroRel w base B l dl (t + 1) v w2 := by
  have e : l ++ (List.replicate t 48 ++ [48]) = l ++ List.replicate (t + 1) 48 := by
    rw [← List.replicate_succ']
  rw [e] at h
  refine ⟨?_, h, hb.trans hb'⟩
  obtain ⟨A, c, e⟩ := h.form
  exact ⟨A, c, by rw [e, List.length_append, List.length_replicate]⟩

/-- What is left to say at the end. -/
theorem efg_end {w w4 w5 w6 w7 : World} {base B : Nat} {l l' dl : List UInt8} {v : Value} (h : Buf w7 base B v l dl) (hl : l = l')
    (h4 : Below base w w4) (h5 : Below base w4 w5) (h6 : Below base w5 w6) (h7 : Below base w6 w7) : EfgPost w base l' (.returned v) w7 := by
  subst hl
  exact ⟨v, rfl, ⟨B, dl, h⟩, ((h4.trans h5).trans h6).trans h7⟩

theorem mid_at {w : World} {B : Nat} {dl : List UInt8} {nz M : Nat} (h : BytesAt w B dl) (hM : min nz 4 = M) (hM1 : 1 ≤ M) (hz : nz ≤ dl.length) :
    (mid dl nz).length = M - 1 ∧ ∀ j (hj : j < (mid dl nz).length), w.cell? ((⟨B, 1, none⟩ : Addr).add j) = some (byteV ((mid dl nz)[j])) := by
  have hlen : (mid dl nz).length = M - 1 := by
    unfold mid
    rw [List.length_drop, List.length_take, hM]
    omega
  refine ⟨hlen, fun j hj => ?_⟩
  have e : (mid dl nz)[j] = dl[1 + j]'(by omega) := by
    simp only [mid, List.getElem_drop, List.getElem_take]
  rw [Addr.add_lit, h (1 + j) (by omega), e, List.getD_eq_getElem?_getD, List.getElem?_eq_getElem (by omega)]
  rfl

theorem two_small {n : Nat} (h : n < 10) : two n = [48, UInt8.ofNat (48 + n)] := by rw [two, if_pos h]
theorem two_big {n : Nat} (h : ¬ n < 10) : two n = [UInt8.ofNat (48 + n / 10), UInt8.ofNat (48 + n % 10)] := by rw [two, if_neg h]
theorem byte_of (n : Nat) (h : n < 256) : ((UInt8.ofNat n).toNat : Int) = (n : Int) := by
  rw [UInt8.toNat_ofNat_of_lt' (by simpa using h)]


set_option maxHeartbeats 8000000 in
theorem efg_any (base B : Nat) (v : Value) (dl : List UInt8) (nz : Nat) (dp : Int) (w : World) (h : Buf w base B v [] dl) (hz1 : 1 ≤ nz) (hz : nz ≤ dl.length) (hd : dl.length ≤ 20) (hdp1 : -8 ≤ dp) (hdp2 : dp ≤ 50) :
    Calls Tryz.prog 102 #[v, .bool false, .slice (some ⟨B, 0, none⟩) 24 24, .int .i64 dp, .int .i64 nz, .int .i64 3, .int .u8 101, .bool false] w (EfgPost w base (efg dl nz dp)) := by
  obtain ⟨A, c, rfl⟩ := h.form
  have HC : Hid ((∃ n : Nat, dp = 1 - (n : Int) ∧ 1 ≤ n ∧ n ≤ 9) ∨ (∃ n : Nat, dp = 1 + (n : Int) ∧ 0 ≤ n ∧ n ≤ 9) ∨ (∃ n : Nat, dp = 1 + (n : Int) ∧ 10 ≤ n ∧ n ≤ 49)) := by
    by_cases h1 : dp ≤ 0
    · exact .inl ⟨(1 - dp).toNat, by omega, by omega, by omega⟩
    · by_cases h2 : dp ≤ 10
      · exact .inr (.inl ⟨(dp - 1).toNat, by omega, by omega, by omega⟩)
      · exact .inr (.inr ⟨(dp - 1).toNat, by omega, by omega, by omega⟩)
  have hB := Lib.hid h
  have hc0 := h.at_ 0 (by omega)
  unfold byteV at hc0
  obtain ⟨z0, hz0⟩ : ∃ z0, z0 = dl.getD 0 0 := ⟨_, rfl⟩
  rw [← hz0] at hc0
  have Hz0 := Lib.hid hz0
  clear hz0
  clear h
  have hnz : (((nz : Nat) : Int) != 0) = true := by simp; omega
  obtain ⟨M, hM⟩ : ∃ M, min nz 4 = M := ⟨_, rfl⟩
  have HM := Lib.hid hM
  have hM1 : 1 ≤ M := by omega
  have hM4 : M ≤ 4 := by omega
  have hmin : min (nz : Int) 4 = (M : Int) := by omega
  clear hM
  go_enter Tryz.func102, Tryz.ntmps102
  go_wp2_with (at_builtin; refine wpList_buf1 rfl (.tmp 87) (.tmp 89) rfl rfl base B _ [] dl z0 rfl hB.out rfl (by simp) ?_)
  intro v1 w1 h1 b1
  obtain ⟨A1, c1, rfl⟩ := h1.form
  have H1 := Lib.hid h1
  clear h1
  go_wp2_with (at_builtin; refine wpList_buf1 rfl (.tmp 93) (.tmp 94) rfl rfl base B _ _ dl 46 rfl H1.out rfl (by simp) ?_)
  intro v2 w2 h2 b2
  obtain ⟨A2, c2, rfl⟩ := h2.form
  have H2 := Lib.hid h2
  clear h2
  by_cases hM2 : 2 ≤ M
  · have hlt : 1 < M := by omega
    obtain ⟨m1, m2⟩ := mid_at H2.out.at_ HM.out hM1 hz
    have Hm1 := Lib.hid m1
    have Hm2 := Lib.hid m2
    clear m1 m2
    go_wp2_with (at_builtin; refine wpList_buf rfl (.tmp 103) (.tmp 107) rfl rfl base B _ _ dl rfl H2.out ⟨B, 1, none⟩ (M - 1) _ (mid dl nz) rfl ?e1 ?e2 ?e3 ?_)
    case e1 => exact Hm1.out
    case e2 => exact Hm2.out
    case e3 => simp; omega
    intro v3 w3 h3 b3
    obtain ⟨A3, c3, rfl⟩ := h3.form
    have hl3 : (z0 :: 46 :: mid dl nz).length ≤ 10 := by have := Hm1.out; simp; omega
    generalize hL : (z0 :: 46 :: mid dl nz) = L at h3 hl3 ⊢
    have HL := Lib.hid hL
    clear hL
    have Hs3 : Hid (ZeroRel w3 base B L dl 0 (.slice A3 L.length c3) w3) := ZeroRel.start h3 (Below.refl _ _)
    clear h3
    go_wp2_with fail
    go_loopw [0, 114] (fun v x wr => ∃ t : Nat, t ≤ 4 - M ∧ x = .int .i64 t ∧ ZeroRel w3 base B L dl t v wr) (fun _ x _ => 4 - (RowKit.intOf x).toNat)
    case atStart => exact ⟨0, Nat.zero_le _, rfl, Hs3.out⟩
    case round =>
      obtain ⟨t, ht, rfl, ⟨A4, c4, rfl⟩, hbuf, hbz⟩ := hrel
      have H4 := Lib.hid hbuf
      have hl4 : (L ++ List.replicate t 48).length ≤ 100 := by rw [List.length_append, List.length_replicate]; omega
      clear hbuf
      by_cases htK : t < 4 - M
      · have htK' : (t : Int) < 4 - (M : Int) := by omega
        go_wp2_with (at_builtin; refine wpList_buf1 rfl (.tmp 116) (.tmp 117) rfl rfl base B _ _ dl 48 ?f0 H4.out rfl ?f1 ?_)
        case f0 => rfl
        case f1 => omega
        intro v5 w5 h5 b5
        have HR := ZeroRel.step h5 hbz b5
        obtain ⟨A5, c5, rfl⟩ := HR.1
        clear h5 H4 Hs3
        go_wp2_with fail
        go_roundw
        case rel => exact ⟨t + 1, by omega, by go_num, HR⟩
        case measure => simp [RowKit.intOf]; omega
      · have htK' : ¬ (t : Int) < 4 - (M : Int) := by omega
        have hHt : Hid (t = 4 - M) := by show t = 4 - M; omega
        go_wp2_with (at_builtin; refine wpList_buf1 rfl (.tmp 120) (.tmp 122) rfl rfl base B _ _ dl 101 ?f2 H4.out rfl ?f3 ?_)
        case f3 => omega
        intro v5 w5 h5 b5
        obtain ⟨A5, c5, rfl⟩ := h5.form
        have H5 := Lib.hid h5
        have hl5 : (L ++ List.replicate t 48 ++ [101]).length ≤ 101 := by rw [List.length_append]; exact Nat.succ_le_succ hl4
        clear h5
        rcases HC.out with ⟨n, hn, hn1, hn9⟩ | ⟨n, hn, hn1, hn9⟩ | ⟨n, hn, hn1, hn9⟩
        · clear HC
          subst hn
          go_wp2_with (at_builtin; refine wpList_buf1 rfl (.tmp 132) (.tmp 134) rfl rfl base B _ _ dl 45 rfl H5.out rfl ?g1A ?_)
          case g1A => simp; omega
          intro v6 w6 h6 b6
          obtain ⟨A6, c6, rfl⟩ := h6.form
          have H6 := Lib.hid h6
          clear h6
          go_wp2_with (at_builtin; refine wpList_buf2 rfl (.tmp 155) (.tmp 159) rfl rfl base B _ _ dl 48 (UInt8.ofNat (48 + n)) _ _ ?d1A ?d2A rfl H6.out rfl ?d3A ?_)
          case d1A => rfl
          case d2A => rw [byte_of _ (by omega)]; omega
          case d3A => simp; omega
          intro v7 w7 h7 b7
          obtain ⟨A7, c7, rfl⟩ := h7.form
          have H7 := Lib.hid h7
          clear h7
          go_wp2_with fail
          go_ret
          refine efg_end H7.out ?_ (((Below.refl base w).trans b1).trans (b2.trans (b3.trans hbz))) b5 b6 b7
          have e1 := HL.out
          have e2 := HM.out
          have e3 := Hz0.out
          have e4 : t = 4 - M := hHt
          rw [← e1, e4, efg, e2, ← e3, expo, if_pos (by omega), show (-(1 - (n : Int) - 1)).toNat = n by omega, two_small (by omega)]
          simp
        · clear HC
          subst hn
          go_wp2_with (at_builtin; refine wpList_buf1 rfl (.tmp 132) (.tmp 134) rfl rfl base B _ _ dl 43 rfl H5.out rfl ?g1B ?_)
          case g1B => simp; omega
          intro v6 w6 h6 b6
          obtain ⟨A6, c6, rfl⟩ := h6.form
          have H6 := Lib.hid h6
          clear h6
          go_wp2_with (at_builtin; refine wpList_buf2 rfl (.tmp 155) (.tmp 159) rfl rfl base B _ _ dl 48 (UInt8.ofNat (48 + n)) _ _ ?d1B ?d2B rfl H6.out rfl ?d3B ?_)
          case d1B => rfl
          case d2B => rw [byte_of _ (by omega)]; omega
          case d3B => simp; omega
          intro v7 w7 h7 b7
          obtain ⟨A7, c7, rfl⟩ := h7.form
          have H7 := Lib.hid h7
          clear h7
          go_wp2_with fail
          go_ret
          refine efg_end H7.out ?_ (((Below.refl base w).trans b1).trans (b2.trans (b3.trans hbz))) b5 b6 b7
          have e1 := HL.out
          have e2 := HM.out
          have e3 := Hz0.out
          have e4 : t = 4 - M := hHt
          rw [← e1, e4, efg, e2, ← e3, expo, if_neg (by omega), show (1 + (n : Int) - 1).toNat = n by omega, two_small (by omega)]
          simp
        · clear HC
          subst hn
          go_wp2_with (at_builtin; refine wpList_buf1 rfl (.tmp 132) (.tmp 134) rfl rfl base B _ _ dl 43 rfl H5.out rfl ?g1C ?_)
          case g1C => simp; omega
          intro v6 w6 h6 b6
          obtain ⟨A6, c6, rfl⟩ := h6.form
          have H6 := Lib.hid h6
          clear h6
          go_wp2_with (at_builtin; refine wpList_buf2 rfl (.tmp 164) (.tmp 173) rfl rfl base B _ _ dl (UInt8.ofNat (48 + n / 10)) (UInt8.ofNat (48 + n % 10)) _ _ ?d1C ?d2C rfl H6.out rfl ?d3C ?_)
          case d1C => rw [byte_of _ (by omega)]; omega
          case d2C => rw [byte_of _ (by omega)]; omega
          case d3C => simp; omega
          intro v7 w7 h7 b7
          obtain ⟨A7, c7, rfl⟩ := h7.form
          have H7 := Lib.hid h7
          clear h7
          go_wp2_with fail
          go_ret
          refine efg_end H7.out ?_ (((Below.refl base w).trans b1).trans (b2.trans (b3.trans hbz))) b5 b6 b7
          have e1 := HL.out
          have e2 := HM.out
          have e3 := Hz0.out
          have e4 : t = 4 - M := hHt
          rw [← e1, e4, efg, e2, ← e3, expo, if_neg (by omega), show (1 + (n : Int) - 1).toNat = n by omega, two_big (by omega)]
          simp
  · obtain rfl : M = 1 := by omega
    have hmin1 : min (nz : Int) 4 = 1 := by omega
    clear hmin
    have hl3 : (z0 :: [46]).length ≤ 10 := by simp
    have h2 := H2.out
    have h2' : Buf w2 base B (.slice A2 [z0, 46].length c2) [z0, 46] dl := h2
    clear h2 H2
    generalize hL : (z0 :: [46]) = L at h2' hl3
    have HL := Lib.hid hL
    have hlen2 : L.length = 2 := by rw [← hL]; rfl
    have Hlen := Lib.hid hlen2
    have Hs3 : Hid (ZeroRel w2 base B L dl 0 (.slice A2 L.length c2) w2) := ZeroRel.start h2' (Below.refl base w2)
    clear hL hlen2 h2'
    go_wp2_with fail
    go_loopw [0, 114] (fun v x wr => ∃ t : Nat, t ≤ 3 ∧ x = .int .i64 t ∧ ZeroRel w2 base B L dl t v wr) (fun _ x _ => 4 - (RowKit.intOf x).toNat)
    case atStart => exact ⟨0, Nat.zero_le _, rfl, Hs3.out⟩
    case round =>
      obtain ⟨t, ht, rfl, ⟨A4, c4, rfl⟩, hbuf, hbz⟩ := hrel
      have H4 := Lib.hid hbuf
      have hl4 : (L ++ List.replicate t 48).length ≤ 100 := by rw [List.length_append, List.length_replicate]; omega
      clear hbuf
      by_cases htK : t < 3
      · have htK' : (t : Int) < 3 := by omega
        go_wp2_with (at_builtin; refine wpList_buf1 rfl (.tmp 116) (.tmp 117) rfl rfl base B _ _ dl 48 ?f0x H4.out rfl ?f1x ?_)
        case f0x => rfl
        case f1x => omega
        intro v5 w5 h5 b5
        have HR := ZeroRel.step h5 hbz b5
        obtain ⟨A5, c5, rfl⟩ := HR.1
        clear h5 H4 Hs3
        go_wp2_with fail
        go_roundw
        case rel => exact ⟨t + 1, by omega, by go_num, HR⟩
        case measure => simp [RowKit.intOf]; omega
      · have htK' : ¬ (t : Int) < 3 := by omega
        have hHt : Hid (t = 3) := by show t = 3; omega
        go_wp2_with (at_builtin; refine wpList_buf1 rfl (.tmp 120) (.tmp 122) rfl rfl base B _ _ dl 101 ?f2x H4.out rfl ?f3x ?_)
        case f3x => omega
        intro v5 w5 h5 b5
        obtain ⟨A5, c5, rfl⟩ := h5.form
        have H5 := Lib.hid h5
        have hl5 : (L ++ List.replicate t 48 ++ [101]).length ≤ 101 := by rw [List.length_append]; exact Nat.succ_le_succ hl4
        clear h5
        rcases HC.out with ⟨n, hn, hn1, hn9⟩ | ⟨n, hn, hn1, hn9⟩ | ⟨n, hn, hn1, hn9⟩
        · clear HC
          subst hn
          go_wp2_with (at_builtin; refine wpList_buf1 rfl (.tmp 132) (.tmp 134) rfl rfl base B _ _ dl 45 rfl H5.out rfl ?g1Ax ?_)
          case g1Ax => simp; omega
          intro v6 w6 h6 b6
          obtain ⟨A6, c6, rfl⟩ := h6.form
          have H6 := Lib.hid h6
          clear h6
          go_wp2_with (at_builtin; refine wpList_buf2 rfl (.tmp 155) (.tmp 159) rfl rfl base B _ _ dl 48 (UInt8.ofNat (48 + n)) _ _ ?d1Ax ?d2Ax rfl H6.out rfl ?d3Ax ?_)
          case d1Ax => rfl
          case d2Ax => rw [byte_of _ (by omega)]; omega
          case d3Ax => simp; omega
          intro v7 w7 h7 b7
          obtain ⟨A7, c7, rfl⟩ := h7.form
          have H7 := Lib.hid h7
          clear h7
          go_wp2_with fail
          go_ret
          refine efg_end H7.out ?_ (((Below.refl base w).trans b1).trans (b2.trans hbz)) b5 b6 b7
          have e1 := HL.out
          have e5 : mid dl nz = [] := by
            unfold mid
            rw [HM.out]
            cases dl <;> rfl
          have e2 := HM.out
          have e3 := Hz0.out
          have e4 : t = 3 := hHt
          rw [← e1, e4, efg, e2, ← e3, expo, if_pos (by omega), show (-(1 - (n : Int) - 1)).toNat = n by omega, two_small (by omega)]
          simp [e5]
        · clear HC
          subst hn
          go_wp2_with (at_builtin; refine wpList_buf1 rfl (.tmp 132) (.tmp 134) rfl rfl base B _ _ dl 43 rfl H5.out rfl ?g1Bx ?_)
          case g1Bx => simp; omega
          intro v6 w6 h6 b6
          obtain ⟨A6, c6, rfl⟩ := h6.form
          have H6 := Lib.hid h6
          clear h6
          go_wp2_with (at_builtin; refine wpList_buf2 rfl (.tmp 155) (.tmp 159) rfl rfl base B _ _ dl 48 (UInt8.ofNat (48 + n)) _ _ ?d1Bx ?d2Bx rfl H6.out rfl ?d3Bx ?_)
          case d1Bx => rfl
          case d2Bx => rw [byte_of _ (by omega)]; omega
          case d3Bx => simp; omega
          intro v7 w7 h7 b7
          obtain ⟨A7, c7, rfl⟩ := h7.form
          have H7 := Lib.hid h7
          clear h7
          go_wp2_with fail
          go_ret
          refine efg_end H7.out ?_ (((Below.refl base w).trans b1).trans (b2.trans hbz)) b5 b6 b7
          have e1 := HL.out
          have e5 : mid dl nz = [] := by
            unfold mid
            rw [HM.out]
            cases dl <;> rfl
          have e2 := HM.out
          have e3 := Hz0.out
          have e4 : t = 3 := hHt
          rw [← e1, e4, efg, e2, ← e3, expo, if_neg (by omega), show (1 + (n : Int) - 1).toNat = n by omega, two_small (by omega)]
          simp [e5]
        · clear HC
          subst hn
          go_wp2_with (at_builtin; refine wpList_buf1 rfl (.tmp 132) (.tmp 134) rfl rfl base B _ _ dl 43 rfl H5.out rfl ?g1Cx ?_)
          case g1Cx => simp; omega
          intro v6 w6 h6 b6
          obtain ⟨A6, c6, rfl⟩ := h6.form
          have H6 := Lib.hid h6
          clear h6
          go_wp2_with (at_builtin; refine wpList_buf2 rfl (.tmp 164) (.tmp 173) rfl rfl base B _ _ dl (UInt8.ofNat (48 + n / 10)) (UInt8.ofNat (48 + n % 10)) _ _ ?d1Cx ?d2Cx rfl H6.out rfl ?d3Cx ?_)
          case d1Cx => rw [byte_of _ (by omega)]; omega
          case d2Cx => rw [byte_of _ (by omega)]; omega
          case d3Cx => simp; omega
          intro v7 w7 h7 b7
          obtain ⟨A7, c7, rfl⟩ := h7.form
          have H7 := Lib.hid h7
          clear h7
          go_wp2_with fail
          go_ret
          refine efg_end H7.out ?_ (((Below.refl base w).trans b1).trans (b2.trans hbz)) b5 b6 b7
          have e1 := HL.out
          have e5 : mid dl nz = [] := by
            unfold mid
            rw [HM.out]
            cases dl <;> rfl
          have e2 := HM.out
          have e3 := Hz0.out
          have e4 : t = 3 := hHt
          rw [← e1, e4, efg, e2, ← e3, expo, if_neg (by omega), show (1 + (n : Int) - 1).toNat = n by omega, two_big (by omega)]
          simp [e5]
end Go.Proofs.YthggdkpikjekmaaGreatRDoor
