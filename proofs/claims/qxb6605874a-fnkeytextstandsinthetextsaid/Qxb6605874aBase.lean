import Derived.Test.Qxb6605874aRows
import Derived.WalkKit
import Derived.WalkSpells
import Derived.WalkLawsBesides
import Derived.Below
import Derived.Deep.QuietTactic
import Derived.BigQuiet
import Derived.OpenShut
import Derived.Lib.AppendStr
namespace Go.Proofs.Qxb6605874a
open Go.RowKit
set_option linter.unusedVariables false

/-- The bytes l lie from a on (where there are any). -/
def Bys (w : World) (a : Option Addr) (l : List Int) : Prop :=
  0 < l.length → ∃ b off, a = some ⟨b, off, none⟩ ∧ ∀ i, i < l.length → w.cell? ⟨b, off + i, none⟩ = some (.int .u8 (l.getD i 0))

theorem Try.info5 : (Try.prog.info? 5).map (fun i => (i.zero, i.size, i.bytes)) = some (some (.int .u8 0), 1, 1) := by kernel_rfl

set_option maxHeartbeats 400000 in
theorem beq_same (a1 a2 : Option Addr) (n c1 c2 : Nat) (l : List Int) (hl : l.length = n) (hm : n ≤ maxLen) (w : World) (h1 : Bys w a1 l) (h2 : Bys w a2 l) :
    Calls Try.prog 14 #[.slice a1 n c1, .slice a2 n c2] w fun e w' => e = .returned (.bool true) ∧ ∃ k, w' = w.drewN k := by
  unfold maxLen at hm
  by_cases h0 : n = 0
  · subst h0
    clear h1 h2 hl
    go_enter Try.func14, Try.ntmps14
    go_wp2
    refine wp_loop_rounds 1 ?_
    rw [rounds_succ]
    go_wp2
    go_ret
    exact ⟨rfl, 0, rfl⟩
  · obtain ⟨b1, o1, rfl, hc1⟩ := h1 (by omega)
    obtain ⟨b2, o2, rfl, hc2⟩ := h2 (by omega)
    have Hl : Hid (l.length = n) := hl
    rw [hl] at hc1 hc2
    clear h1 h2 hl h0
    have HC1 : Hid (∀ i, i < n → w.cell? ⟨b1, o1 + i, none⟩ = some (.int .u8 (l.getD i 0))) := hc1
    have HC2 : Hid (∀ i, i < n → w.cell? ⟨b2, o2 + i, none⟩ = some (.int .u8 (l.getD i 0))) := hc2
    clear hc1 hc2
    go_enter Try.func14, Try.ntmps14
    go_wp2
    go_loopw [5] (fun i wr => ∃ k m : Nat, k ≤ n ∧ i = .int .i64 k ∧ wr = w.drewN m) (fun i _ => n - (intOf i).toNat)
    case atStart => exact ⟨0, 0, Nat.zero_le _, rfl, rfl⟩
    case round =>
      obtain ⟨k, m, hk, rfl, rfl⟩ := hrel
      by_cases hlt : k < n
      · obtain ⟨x, hx⟩ : ∃ x, x = l.getD k 0 := ⟨_, rfl⟩
        have g1 : w.cell? ⟨b1, o1 + k, none⟩ = some (.int .u8 x) := by rw [hx]; exact HC1.out k hlt
        have g2 : w.cell? ⟨b2, o2 + k, none⟩ = some (.int .u8 x) := by rw [hx]; exact HC2.out k hlt
        clear hx
        have i1 : (0 : Int) ≤ (k : Int) := by omega
        have i2 : (k : Int) < (n : Int) := by omega
        go_wp2
        go_quiet (fail)
        go_wp2
        go_roundw
        case rel => exact ⟨k + 1, _, by omega, by go_num, rfl⟩
        case measure => simp [intOf]; omega
      · go_wp2
        go_ret
        exact ⟨rfl, _, rfl⟩

theorem getD_left (l r : List Int) (i : Nat) (h : i < l.length) : (l ++ r).getD i 0 = l.getD i 0 := by simp [List.getD_eq_getElem?_getD, List.getElem?_append, h]
theorem getD_right (l r : List Int) (i : Nat) : (l ++ r).getD (l.length + i) 0 = r.getD i 0 := by
  have h : ¬ l.length + i < l.length := by omega
  simp [List.getD_eq_getElem?_getD, List.getElem?_append, h]

theorem Bys.below {w w' : World} {a : Option Addr} {l : List Int} (h : Bys w a l) (hb : Below w.heap.size w w') : Bys w' a l := by
  intro hp
  obtain ⟨b, off, rfl, hc⟩ := h hp
  refine ⟨b, off, rfl, fun i hi => ?_⟩
  have := World.block_lt_of_cell? _ _ (hc i hi)
  rw [hb.cell this]
  exact hc i hi

theorem Bys.setCell {w : World} {a : Option Addr} {l : List Int} (h : Bys w a l) {p : Addr} (hp : ∀ x, a = some x → x.block ≠ p.block) (u : Value) : Bys (w.setCell p u) a l := by
  intro hl
  obtain ⟨b, off, rfl, hc⟩ := h hl
  refine ⟨b, off, rfl, fun i hi => ?_⟩
  have hne := hp _ rfl
  rw [World.cell?_of_block (w := w) (Below.heap_setCell w p u _ (by simpa using hne))]
  exact hc i hi

theorem Bys.drewN {w : World} {a : Option Addr} {l : List Int} (h : Bys w a l) (n : Nat) : Bys (w.drewN n) a l := h

theorem Bys.owned {w : World} {base g n c : Nat} {l : List Int} (h : w.ownsRow base 5 1 (.slice (some ⟨g, 0, none⟩) n c) n (l.map (Value.int .u8))) : Bys w (some ⟨g, 0, none⟩) l := by
  intro hp
  refine ⟨g, 0, rfl, fun i hi => ?_⟩
  have hl := h.1
  simp only [List.length_map] at hl
  rw [Nat.zero_add, h.cellAt i (by omega)]
  simp [hi]

theorem Bys.lt {w : World} {x : Addr} {l : List Int} (h : Bys w (some x) l) (hp : 0 < l.length) : x.block < w.heap.size := by
  obtain ⟨b, off, hx, hc⟩ := h hp
  simp only [Option.some.injEq] at hx
  subst hx
  exact World.block_lt_of_cell? _ _ (hc 0 hp)

/-- A string's bytes as numbers. -/
def nums (s : ByteArray) : List Int := s.data.toList.map fun b => (b.toNat : Int)
theorem nums_length (s : ByteArray) : (nums s).length = s.size := by
  rw [nums, List.length_map, Array.length_toList]
  rfl
theorem strCells_nums (s : ByteArray) : Lib.strCells s = (nums s).map (Value.int .u8) := by simp [nums, Lib.strCells]
theorem strOfNums_nums (s : ByteArray) : strOfNums (nums s) = s := by
  have : (nums s).map (fun n => UInt8.ofNat n.toNat) = s.data.toList := by
    simp [nums, Function.comp_def]
  unfold strOfNums
  rw [this]
theorem nums_range (s : ByteArray) : ∀ x ∈ nums s, 0 ≤ x ∧ x ≤ 255 := by
  intro x hx
  simp only [nums, List.mem_map] at hx
  obtain ⟨b, _, rfl⟩ := hx
  have := b.toNat_lt
  omega
theorem nums_at (s : ByteArray) (k : Nat) (hk : k < s.size) : (((s[k]'hk).toNat : Nat) : Int) = (nums s).getD k 0 := by
  have h3 : k < s.data.size := hk
  have e : s[k]'hk = s.data[k]'h3 := rfl
  rw [e]
  simp [nums]
  rw [Array.getElem?_eq_getElem h3]
  rfl

/-- The bytes l are what the call's own slice v holds. -/
def Buf (B : Nat) (w : World) (v : Value) (l : List Int) : Prop := w.ownsRow B 5 1 v l.length (l.map (Value.int .u8))

theorem Buf.nil (B : Nat) (w : World) : Buf B w (.slice none 0 0) [] := World.ownsRow_nil w B 5 1

theorem Buf.form {B : Nat} {w : World} {v : Value} {l : List Int} (h : Buf B w v l) : ∃ a c, v = .slice a l.length c ∧ Bys w a l ∧ l.length ≤ c ∧ c ≤ maxLen ∧ (a = none → l = []) ∧ ∀ x, a = some x → B ≤ x.block ∧ x.off = 0 ∧ x.spot = none ∧ x.block < w.heap.size := by
  have h' : w.ownsRow B 5 1 v l.length (l.map (Value.int .u8)) := h
  rcases h.2 with ⟨rfl, hn⟩ | ⟨g, cap, cur, rfl, hb, hg, hnc, hcm, hcs, _⟩
  · obtain rfl := List.eq_nil_of_length_eq_zero hn
    exact ⟨none, 0, rfl, fun hp => by simp at hp, Nat.le_refl _, by unfold maxLen; omega, fun _ => rfl, by simp⟩
  · refine ⟨some ⟨g, 0, none⟩, cap, rfl, Bys.owned h', hnc, hcm, by simp, ?_⟩
    intro x hx
    simp only [Option.some.injEq] at hx
    subst hx
    exact ⟨hb, rfl, rfl, (h'.lt g rfl).2⟩

theorem Buf.below {B B' : Nat} {w w' : World} {v : Value} {l : List Int} (h : Buf B w v l) (hb : Below B' w w') (hB : w.heap.size ≤ B') : Buf B w' v l := by
  have h' : w.ownsRow B 5 1 v l.length (l.map (Value.int .u8)) := h
  refine ⟨h.1, ?_⟩
  rcases h.2 with h2 | ⟨g, cap, cur, hv, hg, hh, r⟩
  · exact .inl h2
  · refine .inr ⟨g, cap, cur, hv, hg, ?_, r⟩
    have : g < w.heap.size := (h'.lt g (by rw [hv]; rfl)).2
    rw [hb.block g (by omega)]
    exact hh

theorem Bys.new (w : World) (cs : Array Value) (l : List Int) (h : cs = (l.map (Value.int .u8)).toArray) : Bys (w.alloc (.cells cs 5)) (some ⟨w.heap.size, 0, none⟩) l := by
  intro hp
  refine ⟨w.heap.size, 0, rfl, fun i hi => ?_⟩
  rw [Nat.zero_add, cell_of_row _ w.heap.size i cs 5 (0, 0) (heap_alloc_new w _), h]
  simp [hi]

theorem Buf.alloc {B : Nat} {w : World} {v : Value} {l : List Int} (h : Buf B w v l) (o : Obj) : Buf B (w.alloc o) v l := World.ownsRow.alloc h o
theorem Buf.drewN {B : Nat} {w : World} {v : Value} {l : List Int} (h : Buf B w v l) (n : Nat) : Buf B (w.drewN n) v l := h

/-- No row but rows of bytes has turned. -/
def Keeps (w w' : World) : Prop := ∀ (g : Nat) (cs : Array Value) (t : TypeId) (fr : Nat × Nat), t ≠ 5 → w.heap[g]? = some (.cells cs t fr) → w'.heap[g]? = some (.cells cs t fr)
theorem Keeps.refl (w : World) : Keeps w w := fun _ _ _ _ _ h => h
theorem Keeps.trans {w w1 w2 : World} (h : Keeps w w1) (k : Keeps w1 w2) : Keeps w w2 := fun g cs t fr ht hg => k g cs t fr ht (h g cs t fr ht hg)
theorem Keeps.alloc {w w1 : World} (h : Keeps w w1) (o : Obj) : Keeps w (w1.alloc o) := by
  intro g cs t fr ht hg
  have h1 := h g cs t fr ht hg
  rw [Below.heap_alloc _ _ _ ?_]
  · exact h1
  · rcases Nat.lt_or_ge g w1.heap.size with h2 | h2
    · exact h2
    · rw [Array.getElem?_eq_none h2] at h1; cases h1
theorem Keeps.grown {w w' : World} {B n : Nat} {v : Value} {xs : List Value} (h : w.ownsRow B 5 1 v n xs) (hg : w.grownBy w' v.ownBlock) : Keeps w w' := by
  intro g cs t fr ht hgg
  have hlt : g < w.heap.size := by
    rcases Nat.lt_or_ge g w.heap.size with h2 | h2
    · exact h2
    · rw [Array.getElem?_eq_none h2] at hgg; cases hgg
  rw [hg.block g hlt ?_]
  · exact hgg
  · intro e
    rcases h.2 with ⟨rfl, _⟩ | ⟨g', cap, cur, rfl, _, hg', _⟩
    · simp [Value.ownBlock] at e
    · simp only [Value.ownBlock, Option.some.injEq] at e
      subst e
      rw [hgg] at hg'
      simp only [Option.some.injEq, Obj.cells.injEq] at hg'
      exact ht hg'.2.1

/-- 'append(b, ..)', b the call's own bytes: the law in one word. -/
theorem wpList_push {ops : Array Oper} {rest : List Oper} {o : Oper} {a : Act} {Q : Exit → Act → World → Prop} (w : World) (hgd : o.guard = none) (s x : Operand)
    (ho : o.op = .call { callee := .builtin .append, args := #[s, x], argTypes := #[30, 30] })
    (B : Nat) (v : Value) (l : List Int) (hs : a.eval s = v) (hb : Buf B w v l) (ad : Addr) (m c : Nat) (news : List Int) (hx : a.eval x = .slice (some ad) m c) (hm : news.length = m) (hn : Bys w (some ad) news)
    (hlen : l.length + news.length ≤ 100000000) (hB : B ≤ w.heap.size)
    (h : ∀ v' w', Buf B w' v' (l ++ news) → Below B w w' → Keeps w w' → wpList Try.prog ops Q rest (a.put o.dst v') w') : wpList Try.prog ops Q (o :: rest) a w := by
  obtain ⟨i0, hi, hz0, hz1, hz2⟩ := info_parts Try.info5
  refine wpList_append_own w hgd s x 30 ho B 5 i0 (.int .u8 0) 1 1 Try.underlying30 hi hz0 hz1 hz2 rfl (by decide) v l.length _ hs hb ad m c (news.map (Value.int .u8)) hx (by simpa using hm) ?_ (ints_oneCell _ _)
    (by unfold maxLen; omega) (by omega) hB ?_
  · intro j u hj
    have hjl : j < news.length := by
      have := (List.getElem?_eq_some_iff.1 hj).1
      simpa using this
    obtain ⟨b, off, hx, hc⟩ := hn (by omega)
    simp only [Option.some.injEq] at hx
    subst hx
    rw [Addr.add_lit, hc j hjl]
    rw [← hj]
    simp [hjl]
  · intro v' w' hown hgrow _
    refine h v' w' ?_ ?_ (Keeps.grown hb hgrow)
    · unfold Buf
      rw [List.length_append, List.map_append, hm]
      exact hown
    · exact (Below.refl _ _).grown hgrow hB (fun k hk => (World.ownsRow.lt hb k hk).1)

theorem wpList_pushStr {ops : Array Oper} {rest : List Oper} {o : Oper} {a : Act} {Q : Exit → Act → World → Prop} (w : World) (hgd : o.guard = none) (sl x : Operand)
    (ho : o.op = .call { callee := .builtin .append, args := #[sl, x], argTypes := #[30, 9] })
    (B : Nat) (v : Value) (l : List Int) (hs : a.eval sl = v) (hb : Buf B w v l) (s : ByteArray) (hx : a.eval x = .string s)
    (hlen : l.length + s.size ≤ 100000000) (hB : B ≤ w.heap.size)
    (h : ∀ v' w', Buf B w' v' (l ++ nums s) → Below B w w' → Keeps w w' → wpList Try.prog ops Q rest (a.put o.dst v') w') : wpList Try.prog ops Q (o :: rest) a w := by
  obtain ⟨i0, hi, hz0, hz1, hz2⟩ := info_parts Try.info5
  refine Lib.wpList_append_own_string w hgd sl x 30 9 ho B 5 i0 Try.underlying30 Try.underlying9 hi hz0 hz1 hz2 v l.length _ hs hb s hx (by unfold maxLen; omega) (by omega) hB ?_
  intro v' w' hown hgrow _
  refine h v' w' ?_ ?_ (Keeps.grown hb hgrow)
  · unfold Buf
    rw [List.length_append, List.map_append, nums_length, ← strCells_nums]
    exact hown
  · exact (Below.refl _ _).grown hgrow hB (fun k hk => (World.ownsRow.lt hb k hk).1)

theorem Bys.at {w : World} {b off : Nat} {l : List Int} (h : Bys w (some ⟨b, off, none⟩) l) (i : Nat) (hi : i < l.length) (y : Int) (hy : l.getD i 0 = y) : w.cell? ⟨b, off + i, none⟩ = some (.int .u8 y) := by
  obtain ⟨b', off', hx, hc⟩ := h (by omega)
  simp only [Option.some.injEq, Addr.mk.injEq, and_true] at hx
  obtain ⟨rfl, rfl⟩ := hx
  rw [hc i hi, hy]


/-- It returned a bool. -/
def IsBool (e : Ending) : Prop := ∃ r, e = .returned (.bool r)
theorem IsBool.mk (r : Bool) : IsBool (.returned (.bool r)) := ⟨r, rfl⟩

/-- The text's fields, as they lie in the 21 cells of a ZText. -/
structure Tx (cs : Array Value) (id key : ByteArray) (dg : List Int) (ow tx : ByteArray) (a : Option Addr) (n c : Nat) : Prop where
  size : cs.size = 21
  dgl : dg.length = 16
  f0 : cs[0]? = some (.string id)
  f1 : cs[1]? = some (.string key)
  f2 : ∀ i, i < 16 → cs[2 + i]? = some (.int .u8 (dg.getD i 0))
  f18 : cs[18]? = some (.string ow)
  f19 : cs[19]? = some (.string tx)
  f20 : cs[20]? = some (.slice a n c)

/-- The resources rs lie from a on. -/
def Res (w : World) (a : Option Addr) (rs : List (ByteArray × Int × Int)) : Prop :=
  0 < rs.length → ∃ b off, a = some ⟨b, off, none⟩ ∧ ∀ i (h : i < rs.length), w.cell? ⟨b, off + i * 3, none⟩ = some (.string rs[i].1) ∧ w.cell? ⟨b, off + i * 3 + 1, none⟩ = some (.int .i64 rs[i].2.1) ∧ w.cell? ⟨b, off + i * 3 + 2, none⟩ = some (.int .i64 rs[i].2.2)

theorem Res.below {w w' : World} {a : Option Addr} {rs : List (ByteArray × Int × Int)} (h : Res w a rs) (hb : Below w.heap.size w w') : Res w' a rs := by
  intro hp
  obtain ⟨b, off, rfl, hc⟩ := h hp
  refine ⟨b, off, rfl, fun i hi => ?_⟩
  have hlt : b < w.heap.size := World.block_lt_of_cell? _ _ (hc i hi).1
  exact ⟨(hb.cell (p := ⟨b, off + i * 3, none⟩) hlt).trans (hc i hi).1, (hb.cell (p := ⟨b, off + i * 3 + 1, none⟩) hlt).trans (hc i hi).2.1, (hb.cell (p := ⟨b, off + i * 3 + 2, none⟩) hlt).trans (hc i hi).2.2⟩

end Go.Proofs.Qxb6605874a
