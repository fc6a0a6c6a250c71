import Derived.Test.Qxb6615469aLenenc
namespace Go.Proofs.Qxb6615469a
open Go.RowKit
set_option linter.unusedVariables false

theorem Try.info22 : (Try.prog.info? 22).map (fun i => (i.zero, i.size, i.bytes)) = some (some (.slice none 0 0), 1, 24) := by kernel_rfl

/-- The call's own slice of byte slices V holds the messages ls. -/
def Msgs (B : Nat) (w : World) (V : Value) (ls : List (List Int)) : Prop :=
  ∃ vs : List Value, w.ownsRow B 22 1 V ls.length vs ∧ ∀ i (h : i < ls.length), ∃ v, vs[i]? = some v ∧ Buf B w v ls[i]

theorem Msgs.nil (B : Nat) (w : World) : Msgs B w (.slice none 0 0) [] := ⟨[], World.ownsRow_nil w B 22 1, fun i h => by simp at h⟩

theorem Msgs.below {B : Nat} {w w' : World} {V : Value} {ls : List (List Int)} (h : Msgs B w V ls) (hb : Below w.heap.size w w') : Msgs B w' V ls := by
  obtain ⟨vs, ho, hv⟩ := h
  refine ⟨vs, ⟨ho.1, ?_⟩, fun i hi => ?_⟩
  · rcases ho.2 with h2 | ⟨g, cap, cur, hv, hg, hh, r⟩
    · exact .inl h2
    · refine .inr ⟨g, cap, cur, hv, hg, ?_, r⟩
      rw [hb.block g (ho.lt g (by rw [hv]; rfl)).2]
      exact hh
  · obtain ⟨v, e, hbuf⟩ := hv i hi
    exact ⟨v, e, hbuf.below hb (Nat.le_refl _)⟩

theorem Buf.base {B B' : Nat} {w : World} {v : Value} {l : List Int} (h : Buf B w v l) (hB : B' ≤ B) : Buf B' w v l := by
  refine ⟨h.1, ?_⟩
  rcases h.2 with h2 | ⟨g, cap, cur, hv, hg, r⟩
  · exact .inl h2
  · exact .inr ⟨g, cap, cur, hv, Nat.le_trans hB hg, r⟩

/-- A row of byte slices is no row of bytes. -/
theorem Buf.other {B B' n : Nat} {w : World} {v V : Value} {l : List Int} {vs : List Value} (h : Buf B w v l) (H : w.ownsRow B' 22 1 V n vs) : v.ownBlock = none ∨ v.ownBlock ≠ V.ownBlock := by
  rcases h.2 with ⟨rfl, _⟩ | ⟨g, cap, cur, rfl, _, hg, _⟩
  · exact .inl rfl
  · right
    rcases H.2 with ⟨rfl, _⟩ | ⟨g', cap', cur', rfl, _, hg', _⟩
    · simp [Value.ownBlock]
    · intro e
      simp only [Value.ownBlock, Option.some.injEq] at e
      subst e
      rw [hg] at hg'
      simp at hg'

theorem Buf.kept {B B' n : Nat} {w w' : World} {v V : Value} {l : List Int} {vs : List Value} (h : Buf B w v l) (H : w.ownsRow B' 22 1 V n vs) (hg : w.grownBy w' V.ownBlock) : Buf B w' v l :=
  World.ownsRow.kept h hg (h.other H)

theorem Buf.oneCell {B : Nat} {w : World} {v : Value} {l : List Int} (h : Buf B w v l) : v.oneCell' = true := by
  obtain ⟨a, c, rfl, -⟩ := h.form
  rfl

/-- 'append(messages, d)' and 'append(messages, more...)'. -/
theorem wpList_msgs {ops : Array Oper} {rest : List Oper} {o : Oper} {a : Act} {Q : Exit → Act → World → Prop} (w : World) (hgd : o.guard = none) (s x : Operand)
    (ho : o.op = .call { callee := .builtin .append, args := #[s, x], argTypes := #[46, 46] })
    (B : Nat) (V : Value) (ls : List (List Int)) (hs : a.eval s = V) (hb : Msgs B w V ls) (ad : Addr) (m c : Nat) (ns : List (List Int)) (hm : ns.length = m) (hx : a.eval x = .slice (some ad) m c)
    (hn : ∃ us : List Value, us.length = m ∧ (∀ j u, us[j]? = some u → w.cell? (ad.add j) = some u) ∧ ∀ i (h : i < ns.length), ∃ v, us[i]? = some v ∧ Buf B w v ns[i])
    (hlen : ls.length + m ≤ 1000000) (hB : B ≤ w.heap.size)
    (h : ∀ V' w', Msgs B w' V' (ls ++ ns) → Below B w w' → wpList Try.prog ops Q rest (a.put o.dst V') w') : wpList Try.prog ops Q (o :: rest) a w := by
  obtain ⟨i0, hi, hz0, hz1, hz2⟩ := info_parts Try.info22
  obtain ⟨vs, hown, hv⟩ := hb
  obtain ⟨us, hul, hucell, hu⟩ := hn
  refine wpList_append_own w hgd s x 46 ho B 22 i0 (.slice none 0 0) 1 24 Try.underlying46 hi hz0 hz1 hz2 rfl (by decide) V ls.length vs hs hown ad m c us hx (by simpa using hul) hucell ?_
    (by unfold maxLen; omega) (by omega) hB ?_
  · intro u hu'
    obtain ⟨j, hj, rfl⟩ := List.getElem_of_mem hu'
    obtain ⟨v, e, hbuf⟩ := hu j (by omega)
    rw [List.getElem?_eq_getElem hj] at e
    simp only [Option.some.injEq] at e
    rw [e]
    exact hbuf.oneCell
  · intro v' w' hown' hgrow _
    have hvl : vs.length = ls.length := by simpa using hown.1
    refine h v' w' ⟨vs ++ us, by rw [List.length_append, hm]; exact hown', fun i hi => ?_⟩ ?_
    · by_cases hi' : i < ls.length
      · obtain ⟨v, e, hbuf⟩ := hv i hi'
        refine ⟨v, by rw [List.getElem?_append_left (by omega)]; exact e, ?_⟩
        rw [List.getElem_append_left hi']
        exact hbuf.kept hown hgrow
      · have hi2 : i - ls.length < ns.length := by simp at hi; omega
        obtain ⟨v, e, hbuf⟩ := hu (i - ls.length) hi2
        refine ⟨v, by rw [List.getElem?_append_right (by omega), hvl]; exact e, ?_⟩
        rw [List.getElem_append_right (by omega)]
        exact hbuf.kept hown hgrow
    · exact (Below.refl _ _).grown hgrow hB (fun k hk => (hown.lt k hk).1)

/-- One message, laid into a new block. -/
theorem one_msg {B : Nat} {w : World} {v : Value} {l : List Int} (h : Buf B w v l) :
    ∃ us : List Value, us.length = 1 ∧ (∀ j u, us[j]? = some u → (w.alloc (.cells #[v] 22)).cell? ((⟨w.heap.size, 0, none⟩ : Addr).add j) = some u) ∧ ∀ i (h : i < [l].length), ∃ u, us[i]? = some u ∧ Buf B (w.alloc (.cells #[v] 22)) u [l][i] := by
  refine ⟨[v], rfl, ?_, ?_⟩
  · intro j u hj
    match j, hj with
    | 0, hj =>
      simp only [List.getElem?_cons_zero, Option.some.injEq] at hj
      subst hj
      rw [Addr.add_lit, cell_of_row _ w.heap.size _ _ 22 (0, 0) (heap_alloc_new w _)]
      rfl
  · intro i hi
    match i, hi with
    | 0, _ => exact ⟨v, rfl, h.alloc _⟩

/-- '[]byte(s)': new memory that holds the string's bytes. -/
theorem bytes_conv (s : ByteArray) (w : World) : ∃ c w', Sem.run Try.prog (convert 9 22 (.string s)) w = .ok (.slice (some ⟨w.heap.size, 0, none⟩) s.size c) w' ∧ Bys w' (some ⟨w.heap.size, 0, none⟩) (nums s) ∧ Below w.heap.size w w' ∧ w.heap.size < w'.heap.size := by
  refine ⟨_, _, run_bytes_of_string (P := Try.prog) w 9 22 5 s Try.underlying9 Try.underlying22 Try.underlying5, ?_, ?_, ?_⟩
  · intro hp
    refine ⟨w.heap.size, 0, rfl, fun i hi => ?_⟩
    rw [Nat.zero_add, cell_of_row _ w.heap.size i _ 5 _ (heap_alloc_new w.drew _)]
    rw [nums_length] at hi
    have hi2 : i < s.data.size := hi
    unfold bytesRow
    rw [Array.getElem?_append_left (by simpa using hi2)]
    simp only [nums, List.getD_eq_getElem?_getD, List.getElem?_map, Array.getElem?_map, Array.getElem?_toList, Array.getElem?_eq_getElem hi2]
    rfl
  · exact ((Below.refl _ _).drew).alloc (Nat.le_refl _) _
  · simp

/-- A column's definition. -/
def colB (p : ByteArray × Int) : List Int :=
  lenencB 3 ++ [100, 101, 102] ++ [0, 0, 0] ++ (lenencB p.1.size ++ nums p.1) ++ (lenencB p.1.size ++ nums p.1) ++ lenencB 12 ++ le2 (if p.2 = 8 then 63 else 45) ++ le4 0 ++ [p.2] ++ le2 (if p.2 = 8 then 161 else 1) ++ [0, 0, 0]

/-- The columns cs lie from a on. -/
def Cols (w : World) (a : Option Addr) (cs : List (ByteArray × Int)) : Prop :=
  0 < cs.length → ∃ b off, a = some ⟨b, off, none⟩ ∧ ∀ i (h : i < cs.length), w.cell? ⟨b, off + i * 2, none⟩ = some (.string cs[i].1) ∧ w.cell? ⟨b, off + i * 2 + 1, none⟩ = some (.int .u8 cs[i].2)

theorem Cols.below {w w' : World} {a : Option Addr} {cs : List (ByteArray × Int)} (h : Cols w a cs) (hb : Below w.heap.size w w') : Cols w' a cs := by
  intro hp
  obtain ⟨b, off, rfl, hc⟩ := h hp
  refine ⟨b, off, rfl, fun i hi => ?_⟩
  have hlt : b < w.heap.size := World.block_lt_of_cell? _ _ (hc i hi).1
  exact ⟨(hb.cell (p := ⟨b, off + i * 2, none⟩) hlt).trans (hc i hi).1, (hb.cell (p := ⟨b, off + i * 2 + 1, none⟩) hlt).trans (hc i hi).2⟩
end Go.Proofs.Qxb6615469a
