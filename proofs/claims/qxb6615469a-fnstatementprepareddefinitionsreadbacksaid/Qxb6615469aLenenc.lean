import Derived.Test.Qxb6615469aPackets
import Derived.Maps.AppendAt
namespace Go.Proofs.Qxb6615469a
open Go.RowKit
set_option linter.unusedVariables false

/-- From w to w' no old block has turned but v's own; v' lies in v's row or in a new one. -/
structure Only (w w' : World) (v v' : Value) : Prop where
  size : w.heap.size ≤ w'.heap.size
  block : ∀ k, k < w.heap.size → some k ≠ v.ownBlock → w'.heap[k]? = w.heap[k]?
  own : v'.ownBlock = v.ownBlock ∨ ∃ g, v'.ownBlock = some g ∧ w.heap.size ≤ g

theorem Only.refl (w : World) (v : Value) : Only w w v v := ⟨Nat.le_refl _, fun _ _ _ => rfl, .inl rfl⟩

theorem Only.trans {w w1 w2 : World} {v v1 v2 : Value} (h : Only w w1 v v1) (k : Only w1 w2 v1 v2) : Only w w2 v v2 := by
  have hs := h.size
  have hs2 := k.size
  refine ⟨by omega, fun i hi hne => ?_, ?_⟩
  · rw [k.block i (by omega) ?_, h.block i hi hne]
    rcases h.own with e | ⟨g, e, hg⟩
    · rw [e]; exact hne
    · rw [e]; intro e2; simp only [Option.some.injEq] at e2; omega
  · rcases k.own with e | ⟨g, e, hg⟩
    · rcases h.own with e2 | ⟨g, e2, hg⟩
      · exact .inl (e.trans e2)
      · exact .inr ⟨g, e.trans e2, hg⟩
    · exact .inr ⟨g, e, by omega⟩

theorem Only.alloc {w w1 : World} {v v1 : Value} (h : Only w w1 v v1) (o : Obj) : Only w (w1.alloc o) v v1 := by
  have hs := h.size
  refine ⟨by simp; omega, fun i hi hne => ?_, h.own⟩
  rw [Below.heap_alloc _ _ _ (by omega)]
  exact h.block i hi hne

/-- Bytes that lie elsewhere than in v's own row stand. -/
theorem Bys.only {w w' : World} {v v' : Value} {ad : Addr} {l : List Int} (h : Bys w (some ad) l) (ho : Only w w' v v') (hne : some ad.block ≠ v.ownBlock) : Bys w' (some ad) l := by
  intro hp
  obtain ⟨b, off, hx, hc⟩ := h hp
  simp only [Option.some.injEq] at hx
  subst hx
  refine ⟨b, off, rfl, fun i hi => ?_⟩
  have hb := World.block_lt_of_cell? _ _ (hc i hi)
  rw [World.cell?_of_block (w := w) (ho.block b hb hne)]
  exact hc i hi

theorem wpList_pushO {ops : Array Oper} {rest : List Oper} {o : Oper} {a : Act} {Q : Exit → Act → World → Prop} (w : World) (hgd : o.guard = none) (s x : Operand)
    (ho : o.op = .call { callee := .builtin .append, args := #[s, x], argTypes := #[22, 22] })
    (B : Nat) (v : Value) (l : List Int) (hs : a.eval s = v) (hb : Buf B w v l) (ad : Addr) (m c : Nat) (news : List Int) (hx : a.eval x = .slice (some ad) m c) (hm : news.length = m) (hn : Bys w (some ad) news)
    (hlen : l.length + news.length ≤ 100000000) (hB : B ≤ w.heap.size)
    (h : ∀ v' w', Buf B w' v' (l ++ news) → Below B w w' → Only w w' v v' → wpList Try.prog ops Q rest (a.put o.dst v') w') : wpList Try.prog ops Q (o :: rest) a w := by
  obtain ⟨i0, hi, hz0, hz1, hz2⟩ := info_parts Try.info5
  refine wpList_append_own_at w hgd s x 22 ho B 5 i0 (.int .u8 0) 1 1 Try.underlying22 hi hz0 hz1 hz2 rfl (by decide) v l.length _ hs hb ad m c (news.map (Value.int .u8)) hx (by simpa using hm) ?_ (ints_oneCell _ _)
    (by unfold maxLen; omega) (by omega) hB ?_
  · intro j u hj
    have hjl : j < news.length := by
      have := (List.getElem?_eq_some_iff.1 hj).1
      simpa using this
    obtain ⟨b, off, hx, hc⟩ := hn (by omega)
    simp only [Option.some.injEq] at hx
    subst hx
    rw [Addr.add_lit, hc j hjl]
    rw [← hj]
    simp [hjl]
  · intro v' w' hown hgrow _ hat
    refine h v' w' ?_ ?_ ?_
    · unfold Buf
      rw [List.length_append, List.map_append, hm]
      exact hown
    · exact (Below.refl _ _).grown hgrow hB (fun k hk => (World.ownsRow.lt hb k hk).1)
    · refine ⟨hgrow.size, hgrow.block, ?_⟩
      rcases hat with e | e
      · exact .inl e
      · exact .inr ⟨_, e, Nat.le_refl _⟩

set_option maxHeartbeats 400000 in
theorem le16_only (B : Nat) (v : Value) (l : List Int) (x : Int) (w : World) (hB : B ≤ w.heap.size) (hb : Buf B w v l) (hlen : l.length + 2 ≤ 100000000) :
    Calls Try.prog 42 #[.agg #[], v, .int .u16 x] w fun e w' => ∃ v', e = .returned v' ∧ Buf B w' v' (l ++ le2 x) ∧ Below B w w' ∧ Only w w' v v' := by
  have HB : Hid (Buf B w v l) := hb
  clear hb
  go_enter Try.func42, Try.ntmps42
  go_wp2_with (at_builtin; refine wpList_pushO _ rfl (.tmp 7) (.tmp 13) rfl B v l rfl ((HB.out.alloc _).alloc _) ⟨w.heap.size + 1, 0, none⟩ 2 2 (le2 x) rfl rfl (Bys.new2 w _ _ (le2 x) rfl) hlen (by simp; omega) ?_)
  intro v1 w1 h1 b1 o1
  have H1 : Hid (Buf B w1 v1 (l ++ le2 x)) := h1
  have B1 : Hid (Below B w w1) := (((Below.refl _ _).alloc hB _).alloc (by simp; omega) _).trans b1
  have O1 : Hid (Only w w1 v v1) := (((Only.refl w v).alloc _).alloc _).trans o1
  clear h1 b1 o1
  go_wp2
  go_ret
  exact ⟨_, rfl, H1.out, B1.out, O1.out⟩

set_option maxHeartbeats 400000 in
theorem app16_only (B : Nat) (v : Value) (l : List Int) (x : Int) (w : World) (hB : B ≤ w.heap.size) (hb : Buf B w v l) (hlen : l.length + 2 ≤ 100000000) :
    Calls Try.prog 38 #[v, .int .u16 x] w fun e w' => ∃ v', e = .returned v' ∧ Buf B w' v' (l ++ le2 x) ∧ Below B w w' ∧ Only w w' v v' := by
  have HB : Hid (Buf B w v l) := hb
  clear hb
  go_enter Try.func38, Try.ntmps38
  go_wp2_with fail
  refine (le16_only B v l x _ hB HB.out hlen).mono ?_
  rintro e w1 ⟨v1, rfl, h1, b1, o1⟩
  have H1 : Hid (Buf B w1 v1 (l ++ le2 x)) := h1
  have B1 : Hid (Below B w w1) := b1
  have O1 : Hid (Only w w1 v v1) := o1
  clear h1 b1 o1
  go_wp2
  go_ret
  exact ⟨_, rfl, H1.out, B1.out, O1.out⟩

/-- A length-encoded number below 2^24. -/
def lenencB (x : Int) : List Int := if x < 251 then [x] else if x < 65536 then 252 :: le2 x else [253, x % 256, x / 256 % 256, x / 65536]

theorem lenencB_len (x : Int) : (lenencB x).length ≤ 4 := by
  unfold lenencB
  split
  · simp
  · split <;> simp [le2]

set_option maxHeartbeats 400000 in
theorem lenenc_small (B : Nat) (v : Value) (l : List Int) (x : Int) (w : World) (hB : B ≤ w.heap.size) (hb : Buf B w v l) (hlen : l.length + 4 ≤ 100000000) (h0 : 0 ≤ x) (h1 : x < 251) :
    Calls Try.prog 45 #[v, .int .u64 x] w fun e w' => ∃ v', e = .returned v' ∧ Buf B w' v' (l ++ [x]) ∧ Below B w w' ∧ Only w w' v v' := by
  have HB : Hid (Buf B w v l) := hb
  clear hb
  go_enter Try.func45, Try.ntmps45
  go_wp2_with (at_builtin; refine wpList_pushO _ rfl (.tmp 14) (.tmp 17) rfl B v l rfl (HB.out.alloc _) ⟨w.heap.size, 0, none⟩ 1 1 [x] rfl rfl (Bys.new w _ [x] rfl) (by simp; omega) (by simp; omega) ?_)
  intro v1 w1 h1 b1 o1
  have O1 : Hid (Only w w1 v v1) := ((Only.refl w v).alloc _).trans o1
  have H1 : Hid (Buf B w1 v1 (l ++ [x])) := h1
  have B1 : Hid (Below B w w1) := (((Below.refl _ _).alloc hB _)).trans b1
  clear h1 b1 o1
  go_wp2
  go_ret
  exact ⟨_, rfl, H1.out, B1.out, O1.out⟩

set_option maxHeartbeats 400000 in
theorem lenenc_mid (B : Nat) (v : Value) (l : List Int) (x : Int) (w : World) (hB : B ≤ w.heap.size) (hb : Buf B w v l) (hlen : l.length + 4 ≤ 100000000) (h0 : 251 ≤ x) (h1 : x < 65536) :
    Calls Try.prog 45 #[v, .int .u64 x] w fun e w' => ∃ v', e = .returned v' ∧ Buf B w' v' (l ++ (252 :: le2 x)) ∧ Below B w w' ∧ Only w w' v v' := by
  have HB : Hid (Buf B w v l) := hb
  have hx : x % 65536 = x := by omega
  clear hb
  go_enter Try.func45, Try.ntmps45
  go_wp2_with (at_builtin; refine wpList_pushO _ rfl (.tmp 22) (.tmp 23) rfl B v l rfl (HB.out.alloc _) ⟨w.heap.size, 0, none⟩ 1 1 [252] rfl rfl (Bys.new w _ [252] rfl) (by simp; omega) (by simp; omega) ?_)
  intro v1 w1 h1 b1 o1
  have O1 : Hid (Only w w1 v v1) := ((Only.refl w v).alloc _).trans o1
  have H1 : Hid (Buf B w1 v1 (l ++ [252])) := h1
  have B1 : Hid (Below B w w1) := (((Below.refl _ _).alloc hB _)).trans b1
  have g1 : B ≤ w1.heap.size := by have := B1.out.size; omega
  clear h1 b1 o1
  go_wp2_with fail
  refine (app16_only B v1 (l ++ [252]) x _ g1 H1.out (by simp; omega)).mono ?_
  rintro e w2 ⟨v2, rfl, h2, b2, o2⟩
  have H2 : Hid (Buf B w2 v2 (l ++ (252 :: le2 x))) := by
    show Buf B w2 v2 (l ++ (252 :: le2 x))
    simpa using h2
  have B2 : Hid (Below B w w2) := B1.out.trans b2
  have O2 : Hid (Only w w2 v v2) := O1.out.trans o2
  clear h2 b2 o2
  go_wp2
  go_ret
  exact ⟨_, rfl, H2.out, B2.out, O2.out⟩

set_option maxHeartbeats 400000 in
theorem lenenc_big (B : Nat) (v : Value) (l : List Int) (x : Int) (w : World) (hB : B ≤ w.heap.size) (hb : Buf B w v l) (hlen : l.length + 4 ≤ 100000000) (h0 : 65536 ≤ x) (h1 : x < 16777216) :
    Calls Try.prog 45 #[v, .int .u64 x] w fun e w' => ∃ v', e = .returned v' ∧ Buf B w' v' (l ++ [253, x % 256, x / 256 % 256, x / 65536]) ∧ Below B w w' ∧ Only w w' v v' := by
  have HB : Hid (Buf B w v l) := hb
  clear hb
  go_enter Try.func45, Try.ntmps45
  go_wp2_with (at_builtin; refine wpList_pushO _ rfl (.tmp 31) (.tmp 40) rfl B v l rfl (HB.out.alloc _) ⟨w.heap.size, 0, none⟩ 4 4 [253, x % 256, x / 256 % 256, x / 65536] rfl rfl (Bys.new w _ [253, x % 256, x / 256 % 256, x / 65536] rfl) (by simp; omega) (by simp; omega) ?_)
  intro v1 w1 h1 b1 o1
  have O1 : Hid (Only w w1 v v1) := ((Only.refl w v).alloc _).trans o1
  have H1 : Hid (Buf B w1 v1 (l ++ [253, x % 256, x / 256 % 256, x / 65536])) := h1
  have B1 : Hid (Below B w w1) := (((Below.refl _ _).alloc hB _)).trans b1
  clear h1 b1 o1
  go_wp2
  go_ret
  exact ⟨_, rfl, H1.out, B1.out, O1.out⟩

theorem lenenc_any (B : Nat) (v : Value) (l : List Int) (x : Int) (w : World) (hB : B ≤ w.heap.size) (hb : Buf B w v l) (hlen : l.length + 4 ≤ 100000000) (h0 : 0 ≤ x) (h1 : x < 16777216) :
    Calls Try.prog 45 #[v, .int .u64 x] w fun e w' => ∃ v', e = .returned v' ∧ Buf B w' v' (l ++ lenencB x) ∧ Below B w w' ∧ Only w w' v v' := by
  unfold lenencB
  by_cases c1 : x < 251
  · rw [if_pos c1]
    exact lenenc_small B v l x w hB hb hlen h0 c1
  · rw [if_neg c1]
    by_cases c2 : x < 65536
    · rw [if_pos c2]
      exact lenenc_mid B v l x w hB hb hlen (by omega) c2
    · rw [if_neg c2]
      exact lenenc_big B v l x w hB hb hlen (by omega) h1

set_option maxHeartbeats 400000 in
/-- 'appendLenencBytes(b, v)', b the call's own, v whatever bytes outside b's own row. -/
theorem lenencBytes_any (B : Nat) (v : Value) (l : List Int) (ad : Addr) (n c : Nat) (z : List Int) (hz : z.length = n) (w : World) (hB : B ≤ w.heap.size) (hb : Buf B w v l) (hlen : l.length + n + 4 ≤ 100000000)
    (hn : n < 16777216) (hy : Bys w (some ad) z) (hne : some ad.block ≠ v.ownBlock) :
    Calls Try.prog 44 #[v, .slice (some ad) n c] w fun e w' => ∃ v', e = .returned v' ∧ Buf B w' v' (l ++ (lenencB n ++ z)) ∧ Below B w w' := by
  have HB : Hid (Buf B w v l) := hb
  have HZ : Hid (z.length = n) := hz
  have HY : Hid (Bys w (some ad) z) := hy
  have HNE : Hid (some ad.block ≠ v.ownBlock) := hne
  clear hb hz hy hne
  go_enter Try.func44, Try.ntmps44
  go_wp2_with fail
  refine (lenenc_any B v l n _ hB HB.out (by omega) (by omega) (by omega)).mono ?_
  rintro e w1 ⟨v1, rfl, h1, b1, o1⟩
  have H1 : Hid (Buf B w1 v1 (l ++ lenencB n)) := h1
  have B1 : Hid (Below B w w1) := b1
  have g1 : B ≤ w1.heap.size := by have := B1.out.size; omega
  have hll : (l ++ lenencB n).length + z.length ≤ 100000000 := by have := lenencB_len n; have := HZ.out; simp; omega
  have HY1 : Hid (Bys w1 (some ad) z) := Bys.only HY.out o1 HNE.out
  clear h1 b1 o1
  go_wp2_with (at_builtin; refine wpList_push _ rfl (.tmp 9) (.tmp 10) rfl B v1 (l ++ lenencB n) rfl H1.out ad n c z rfl HZ.out HY1.out hll g1 ?_)
  intro v2 w2 h2 b2
  have H2 : Hid (Buf B w2 v2 (l ++ (lenencB n ++ z))) := by
    show Buf B w2 v2 (l ++ (lenencB n ++ z))
    simpa using h2
  have B2 : Hid (Below B w w2) := B1.out.trans b2
  clear h2 b2
  go_wp2
  go_ret
  exact ⟨_, rfl, H2.out, B2.out⟩
end Go.Proofs.Qxb6615469a
