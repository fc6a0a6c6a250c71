import Derived.Test.Qxb6615469aCore
import Derived.OpenShut
import Derived.Lib.AppendStr
namespace Go.Proofs.Qxb6615469a
open Go.RowKit
set_option linter.unusedVariables false

/-- A string's bytes as numbers. -/
def nums (s : ByteArray) : List Int := s.data.toList.map fun b => (b.toNat : Int)
theorem nums_length (s : ByteArray) : (nums s).length = s.size := by
  rw [nums, List.length_map, Array.length_toList]
  rfl
theorem strCells_nums (s : ByteArray) : Lib.strCells s = (nums s).map (Value.int .u8) := by simp [nums, Lib.strCells]
theorem strOfNums_nums (s : ByteArray) : strOfNums (nums s) = s := by
  have : (nums s).map (fun n => UInt8.ofNat n.toNat) = s.data.toList := by
    simp [nums, Function.comp_def]
  unfold strOfNums
  rw [this]
theorem nums_range (s : ByteArray) : ∀ x ∈ nums s, 0 ≤ x ∧ x ≤ 255 := by
  intro x hx
  simp only [nums, List.mem_map] at hx
  obtain ⟨b, _, rfl⟩ := hx
  have := b.toNat_lt
  omega
theorem nums_at (s : ByteArray) (k : Nat) (hk : k < s.size) : (((s[k]'hk).toNat : Nat) : Int) = (nums s).getD k 0 := by
  have h3 : k < s.data.size := hk
  have e : s[k]'hk = s.data[k]'h3 := rfl
  rw [e]
  simp [nums]
  rw [Array.getElem?_eq_getElem h3]
  rfl

/-- The bytes l are what the call's own slice v holds. -/
def Buf (B : Nat) (w : World) (v : Value) (l : List Int) : Prop := w.ownsRow B 5 1 v l.length (l.map (Value.int .u8))

theorem Buf.nil (B : Nat) (w : World) : Buf B w (.slice none 0 0) [] := World.ownsRow_nil w B 5 1

theorem Buf.form {B : Nat} {w : World} {v : Value} {l : List Int} (h : Buf B w v l) : ∃ a c, v = .slice a l.length c ∧ Bys w a l ∧ l.length ≤ c ∧ c ≤ maxLen ∧ (a = none → l = []) ∧ ∀ x, a = some x → B ≤ x.block ∧ x.off = 0 ∧ x.spot = none ∧ x.block < w.heap.size := by
  have h' : w.ownsRow B 5 1 v l.length (l.map (Value.int .u8)) := h
  rcases h.2 with ⟨rfl, hn⟩ | ⟨g, cap, cur, rfl, hb, hg, hnc, hcm, hcs, _⟩
  · obtain rfl := List.eq_nil_of_length_eq_zero hn
    exact ⟨none, 0, rfl, fun hp => by simp at hp, Nat.le_refl _, by unfold maxLen; omega, fun _ => rfl, by simp⟩
  · refine ⟨some ⟨g, 0, none⟩, cap, rfl, Bys.owned h', hnc, hcm, by simp, ?_⟩
    intro x hx
    simp only [Option.some.injEq] at hx
    subst hx
    exact ⟨hb, rfl, rfl, (h'.lt g rfl).2⟩

theorem Buf.below {B B' : Nat} {w w' : World} {v : Value} {l : List Int} (h : Buf B w v l) (hb : Below B' w w') (hB : w.heap.size ≤ B') : Buf B w' v l := by
  have h' : w.ownsRow B 5 1 v l.length (l.map (Value.int .u8)) := h
  refine ⟨h.1, ?_⟩
  rcases h.2 with h2 | ⟨g, cap, cur, hv, hg, hh, r⟩
  · exact .inl h2
  · refine .inr ⟨g, cap, cur, hv, hg, ?_, r⟩
    have : g < w.heap.size := (h'.lt g (by rw [hv]; rfl)).2
    rw [hb.block g (by omega)]
    exact hh

set_option maxHeartbeats 400000 in
theorem hasZero_no (s : ByteArray) (hs : s.size ≤ maxLen) (h0 : ∀ x ∈ nums s, (x == 0) = false) (w : World) :
    Calls Try.prog 19 #[.string s] w fun e w' => e = .returned (.bool false) ∧ w = w' := by
  unfold maxLen at hs
  have H0 : Hid (∀ x ∈ nums s, (x == 0) = false) := h0
  clear h0
  go_enter Try.func19, Try.ntmps19
  go_wp2
  go_loop [3] (fun i => ∃ k : Nat, k ≤ s.size ∧ i = .int .i64 k) (fun i => s.size - (intOf i).toNat)
  case atStart => exact ⟨0, Nat.zero_le _, rfl⟩
  case round =>
    obtain ⟨k, hk, rfl⟩ := hrel
    by_cases hlt : k < s.size
    · have hn : ((((s[k]'hlt).toNat : Nat) : Int) == 0) = false := by
        rw [nums_at s k hlt]
        exact H0.out _ (by
          have : k < (nums s).length := by rw [nums_length]; exact hlt
          simp [this])
      go_wp2
      go_round
      case rel => exact ⟨k + 1, by omega, by go_num⟩
      case measure => simp [intOf]; omega
    · go_wp2
      go_ret
      exact ⟨rfl, rfl⟩

set_option maxHeartbeats 400000 in
theorem hasZero_yes (s : ByteArray) (hs : s.size ≤ maxLen) (h0 : ∃ x ∈ nums s, x = 0) (w : World) :
    Calls Try.prog 19 #[.string s] w fun e w' => e = .returned (.bool true) ∧ w = w' := by
  unfold maxLen at hs
  obtain ⟨j, hj, hj0⟩ : ∃ j, ∃ h : j < s.size, ((s[j]'h).toNat : Int) = 0 := by
    obtain ⟨x, hx, rfl⟩ := h0
    obtain ⟨j, hj, e⟩ := List.getElem_of_mem hx
    rw [nums_length] at hj
    refine ⟨j, hj, ?_⟩
    rw [nums_at]
    simp [nums_length, hj, e]
  have H0 : Hid (((s[j]'hj).toNat : Int) = 0) := hj0
  clear h0 hj0
  go_enter Try.func19, Try.ntmps19
  go_wp2
  go_loop [3] (fun i => ∃ k : Nat, k ≤ j ∧ i = .int .i64 k) (fun i => s.size - (intOf i).toNat)
  case atStart => exact ⟨0, Nat.zero_le _, rfl⟩
  case round =>
    obtain ⟨k, hk, rfl⟩ := hrel
    have hlt : k < s.size := by omega
    by_cases hz : ((((s[k]'hlt).toNat : Nat) : Int) == 0) = true
    · go_wp2
      go_ret
      exact ⟨rfl, rfl⟩
    · have hz' : ((((s[k]'hlt).toNat : Nat) : Int) == 0) = false := by simpa using hz
      have hkj : k < j := by
        rcases Nat.lt_or_ge k j with h | h
        · exact h
        · obtain rfl : k = j := by omega
          rw [H0.out] at hz'
          simp at hz'
      clear hz
      go_wp2
      go_round
      case rel => exact ⟨k + 1, by omega, by go_num⟩
      case measure => simp [intOf]; omega


theorem Bys.new (w : World) (cs : Array Value) (l : List Int) (h : cs = (l.map (Value.int .u8)).toArray) : Bys (w.alloc (.cells cs 5)) (some ⟨w.heap.size, 0, none⟩) l := by
  intro hp
  refine ⟨w.heap.size, 0, rfl, fun i hi => ?_⟩
  rw [Nat.zero_add, cell_of_row _ w.heap.size i cs 5 (0, 0) (heap_alloc_new w _), h]
  simp [hi]

theorem Buf.alloc {B : Nat} {w : World} {v : Value} {l : List Int} (h : Buf B w v l) (o : Obj) : Buf B (w.alloc o) v l := World.ownsRow.alloc h o
theorem Buf.drewN {B : Nat} {w : World} {v : Value} {l : List Int} (h : Buf B w v l) (n : Nat) : Buf B (w.drewN n) v l := h

/-- 'append(b, ..)', b the call's own bytes: the law in one word. -/
theorem wpList_push {ops : Array Oper} {rest : List Oper} {o : Oper} {a : Act} {Q : Exit → Act → World → Prop} (w : World) (hgd : o.guard = none) (s x : Operand)
    (ho : o.op = .call { callee := .builtin .append, args := #[s, x], argTypes := #[22, 22] })
    (B : Nat) (v : Value) (l : List Int) (hs : a.eval s = v) (hb : Buf B w v l) (ad : Addr) (m c : Nat) (news : List Int) (hx : a.eval x = .slice (some ad) m c) (hm : news.length = m) (hn : Bys w (some ad) news)
    (hlen : l.length + news.length ≤ 100000000) (hB : B ≤ w.heap.size)
    (h : ∀ v' w', Buf B w' v' (l ++ news) → Below B w w' → wpList Try.prog ops Q rest (a.put o.dst v') w') : wpList Try.prog ops Q (o :: rest) a w := by
  obtain ⟨i0, hi, hz0, hz1, hz2⟩ := info_parts Try.info5
  refine wpList_append_own w hgd s x 22 ho B 5 i0 (.int .u8 0) 1 1 Try.underlying22 hi hz0 hz1 hz2 rfl (by decide) v l.length _ hs hb ad m c (news.map (Value.int .u8)) hx (by simpa using hm) ?_ (ints_oneCell _ _)
    (by unfold maxLen; omega) (by omega) hB ?_
  · intro j u hj
    have hjl : j < news.length := by
      have := (List.getElem?_eq_some_iff.1 hj).1
      simpa using this
    obtain ⟨b, off, hx, hc⟩ := hn (by omega)
    simp only [Option.some.injEq] at hx
    subst hx
    rw [Addr.add_lit, hc j hjl]
    rw [← hj]
    simp [hjl]
  · intro v' w' hown hgrow _
    refine h v' w' ?_ ?_
    · unfold Buf
      rw [List.length_append, List.map_append, hm]
      exact hown
    · exact (Below.refl _ _).grown hgrow hB (fun k hk => (World.ownsRow.lt hb k hk).1)

theorem wpList_pushStr {ops : Array Oper} {rest : List Oper} {o : Oper} {a : Act} {Q : Exit → Act → World → Prop} (w : World) (hgd : o.guard = none) (sl x : Operand)
    (ho : o.op = .call { callee := .builtin .append, args := #[sl, x], argTypes := #[22, 9] })
    (B : Nat) (v : Value) (l : List Int) (hs : a.eval sl = v) (hb : Buf B w v l) (s : ByteArray) (hx : a.eval x = .string s)
    (hlen : l.length + s.size ≤ 100000000) (hB : B ≤ w.heap.size)
    (h : ∀ v' w', Buf B w' v' (l ++ nums s) → Below B w w' → wpList Try.prog ops Q rest (a.put o.dst v') w') : wpList Try.prog ops Q (o :: rest) a w := by
  obtain ⟨i0, hi, hz0, hz1, hz2⟩ := info_parts Try.info5
  refine Lib.wpList_append_own_string w hgd sl x 22 9 ho B 5 i0 Try.underlying22 Try.underlying9 hi hz0 hz1 hz2 v l.length _ hs hb s hx (by unfold maxLen; omega) (by omega) hB ?_
  intro v' w' hown hgrow _
  refine h v' w' ?_ ?_
  · unfold Buf
    rw [List.length_append, List.map_append, nums_length, ← strCells_nums]
    exact hown
  · exact (Below.refl _ _).grown hgrow hB (fun k hk => (World.ownsRow.lt hb k hk).1)

set_option maxHeartbeats 400000 in
/-- 'append(append(b, s...), 0)', b the call's own. -/
theorem appendC_any (B : Nat) (v : Value) (l : List Int) (s : ByteArray) (w : World) (hB : B ≤ w.heap.size) (hb : Buf B w v l) (hlen : l.length + s.size + 1 ≤ 100000000) :
    Calls Try.prog 37 #[v, .string s] w fun e w' => ∃ v', e = .returned v' ∧ Buf B w' v' (l ++ (nums s ++ [0])) ∧ Below B w w' := by
  have HB : Hid (Buf B w v l) := hb
  clear hb
  go_enter Try.func37, Try.ntmps37
  go_wp2_with (at_builtin; refine wpList_pushStr _ rfl (.tmp 5) (.tmp 6) rfl B v l rfl HB.out s rfl (by omega) hB ?_)
  intro v1 w1 h1 b1
  have H1 : Hid (Buf B w1 v1 (l ++ nums s)) := h1
  have B1 : Hid (Below B w w1) := b1
  have hB1 : B ≤ w1.heap.size := by have := b1.size; omega
  clear h1 b1
  go_wp2_with (at_builtin; refine wpList_push _ rfl (.tmp 7) (.tmp 8) rfl B v1 (l ++ nums s) rfl (H1.out.alloc _) ⟨w1.heap.size, 0, none⟩ 1 1 [0] rfl rfl (Bys.new w1 _ [0] rfl) (by simp [nums_length]; omega) (by simp; omega) ?_)
  intro v2 w2 h2 b2
  have H2 : Hid (Buf B w2 v2 (l ++ (nums s ++ [0]))) := h2
  have B2 : Hid (Below B w w2) := (B1.out.alloc hB1 _).trans b2
  clear h2 b2
  go_wp2
  go_ret
  exact ⟨_, rfl, H2.out, B2.out⟩
end Go.Proofs.Qxb6615469a
