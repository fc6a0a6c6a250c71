import Derived.Test.Qxb6615469aRows
import Derived.WalkKit
import Derived.WalkSpells
import Derived.WalkLawsBesides
import Derived.Below
import Derived.Deep.QuietTactic
import Derived.BigQuiet
namespace Go.Proofs.Qxb6615469a
open Go.RowKit
set_option linter.unusedVariables false

/-- The bytes l lie from a on (where there are any). -/
def Bys (w : World) (a : Option Addr) (l : List Int) : Prop :=
  0 < l.length → ∃ b off, a = some ⟨b, off, none⟩ ∧ ∀ i, i < l.length → w.cell? ⟨b, off + i, none⟩ = some (.int .u8 (l.getD i 0))

theorem Try.info5 : (Try.prog.info? 5).map (fun i => (i.zero, i.size, i.bytes)) = some (some (.int .u8 0), 1, 1) := by kernel_rfl

set_option maxHeartbeats 400000 in
theorem beq_same (a1 a2 : Option Addr) (n c1 c2 : Nat) (l : List Int) (hl : l.length = n) (hm : n ≤ maxLen) (w : World) (h1 : Bys w a1 l) (h2 : Bys w a2 l) :
    Calls Try.prog 16 #[.slice a1 n c1, .slice a2 n c2] w fun e w' => e = .returned (.bool true) ∧ ∃ k, w' = w.drewN k := by
  unfold maxLen at hm
  by_cases h0 : n = 0
  · subst h0
    clear h1 h2 hl
    go_enter Try.func16, Try.ntmps16
    go_wp2
    refine wp_loop_rounds 1 ?_
    rw [rounds_succ]
    go_wp2
    go_ret
    exact ⟨rfl, 0, rfl⟩
  · obtain ⟨b1, o1, rfl, hc1⟩ := h1 (by omega)
    obtain ⟨b2, o2, rfl, hc2⟩ := h2 (by omega)
    have Hl : Hid (l.length = n) := hl
    rw [hl] at hc1 hc2
    clear h1 h2 hl h0
    have HC1 : Hid (∀ i, i < n → w.cell? ⟨b1, o1 + i, none⟩ = some (.int .u8 (l.getD i 0))) := hc1
    have HC2 : Hid (∀ i, i < n → w.cell? ⟨b2, o2 + i, none⟩ = some (.int .u8 (l.getD i 0))) := hc2
    clear hc1 hc2
    go_enter Try.func16, Try.ntmps16
    go_wp2
    go_loopw [5] (fun i wr => ∃ k m : Nat, k ≤ n ∧ i = .int .i64 k ∧ wr = w.drewN m) (fun i _ => n - (intOf i).toNat)
    case atStart => exact ⟨0, 0, Nat.zero_le _, rfl, rfl⟩
    case round =>
      obtain ⟨k, m, hk, rfl, rfl⟩ := hrel
      by_cases hlt : k < n
      · obtain ⟨x, hx⟩ : ∃ x, x = l.getD k 0 := ⟨_, rfl⟩
        have g1 : w.cell? ⟨b1, o1 + k, none⟩ = some (.int .u8 x) := by rw [hx]; exact HC1.out k hlt
        have g2 : w.cell? ⟨b2, o2 + k, none⟩ = some (.int .u8 x) := by rw [hx]; exact HC2.out k hlt
        clear hx
        have i1 : (0 : Int) ≤ (k : Int) := by omega
        have i2 : (k : Int) < (n : Int) := by omega
        go_wp2
        go_quiet (fail)
        go_wp2
        go_roundw
        case rel => exact ⟨k + 1, _, by omega, by go_num, rfl⟩
        case measure => simp [intOf]; omega
      · go_wp2
        go_ret
        exact ⟨rfl, _, rfl⟩

theorem clone_nil (n c : Nat) (w : World) : Calls Try.prog 11 #[.slice none n c] w fun e w' => e = .returned (.slice none 0 0) ∧ w = w' := by
  have hn := fun w => Lib.run_eql_slice_nil (P := Try.prog) w 22 5 none n c 0 0 Try.underlying22
  go_enter Try.func11, Try.ntmps11
  go_wp2
  go_ret
  exact ⟨rfl, rfl⟩

/-- What has been copied behind k rounds. -/
def half (l : List Int) (n k : Nat) : List Int := l.take k ++ List.replicate (n - k) 0

theorem half_zero (l : List Int) (n : Nat) : half l n 0 = List.replicate n 0 := by simp [half]
theorem half_all (l : List Int) (n : Nat) (h : l.length = n) : half l n n = l := by simp [half, ← h]
theorem half_succ (l : List Int) (n k : Nat) (h : l.length = n) (hk : k < n) : (half l n k).set k (l.getD k 0) = half l n (k + 1) := by
  unfold half
  apply List.ext_getElem?
  intro i
  simp only [List.getElem?_set, List.length_append, List.length_take, List.length_replicate, List.getElem?_append, List.getElem?_take, List.getElem?_replicate, List.getD_eq_getElem?_getD]
  have e1 : min k l.length = k := by omega
  have e2 : min (k + 1) l.length = k + 1 := by omega
  rw [e1, e2]
  by_cases h1 : i < k
  · simp [h1, show ¬ k = i by omega, show i < k + 1 by omega]
  · by_cases h2 : k = i
    · subst h2
      simp [show k < k + (n - k) by omega, List.getElem?_eq_getElem (show k < l.length by omega)]
    · simp [h1, h2, show ¬ i < k + 1 by omega]
      by_cases h3 : i < n
      · simp [show i - k < n - k by omega, show i - (k + 1) < n - (k + 1) by omega]
      · simp [show ¬ i - k < n - k by omega, show ¬ i - (k + 1) < n - (k + 1) by omega]

theorem map_set_u8 (l : List Int) (k : Nat) (x : Int) : (l.map (Value.int .u8)).set k (.int .u8 x) = (l.set k x).map (Value.int .u8) := by
  rw [List.map_set]

set_option maxHeartbeats 400000 in
theorem clone_some (x : Addr) (n c : Nat) (l : List Int) (hl : l.length = n) (hm : n ≤ 1048576) (w : World) (h1 : Bys w (some x) l) :
    Calls Try.prog 11 #[.slice (some x) n c] w fun e w' => e = .returned (.slice (some ⟨w.heap.size, 0, none⟩) n n) ∧
      w'.ownsRow w.heap.size 5 1 (.slice (some ⟨w.heap.size, 0, none⟩) n n) n (l.map (Value.int .u8)) ∧ Below w.heap.size w w' := by
  have hn := fun w => Lib.run_eql_slice_nil (P := Try.prog) w 22 5 (some x) n c 0 0 Try.underlying22
  obtain ⟨i0, hi, hz0, hz1, hz2⟩ := info_parts Try.info5
  have Hl : Hid (l.length = n) := hl
  have H1 : Hid (Bys w (some x) l) := h1
  have Hhi : Hid (i0.bytes = 1) := hz2
  have hby : i0.bytes * n ≤ 281474976710656 := by rw [hz2]; omega
  have hml : n ≤ maxLen := by unfold maxLen; omega
  clear h1 hl hz2
  go_enter Try.func11, Try.ntmps11
  go_wp2_with (at_make; refine wpList_make_full _ rfl _ _ 22 rfl w.heap.size 5 i0 (.int .u8 0) 1 Try.underlying22 hi hz0 hz1 _ _ _ _ n rfl rfl rfl rfl hby hml (Nat.le_refl _) ?_)
  intro w1 hown hgrow
  have hbel : Below w.heap.size w w1 := (Below.refl _ _).grown hgrow (Nat.le_refl _) (by simp)
  have e0 : (madeCells #[Value.int .u8 0] n).toList = (half l n 0).map (Value.int .u8) := by
    rw [half_zero]; simp [toList_madeCells_one]
  rw [e0] at hown
  clear hgrow hi hz0 hz1 hby
  go_wp2
  go_loopw [4] (fun i wr => ∃ k : Nat, k ≤ n ∧ i = .int .i64 k ∧ wr.ownsRow w.heap.size 5 1 (.slice (some ⟨w.heap.size, 0, none⟩) n n) n ((half l n k).map (Value.int .u8)) ∧ Below w.heap.size w wr) (fun i _ => n - (intOf i).toNat)
  case atStart => exact ⟨0, Nat.zero_le _, rfl, hown, hbel⟩
  case round =>
    clear hown hbel e0
    obtain ⟨k, hk, rfl, hown, hbel⟩ := hrel
    by_cases hlt : k < n
    · obtain ⟨b, off, hx, hc⟩ := H1.out (by have := Hl.out; omega)
      simp only [Option.some.injEq] at hx
      subst hx
      have hb := World.block_lt_of_cell? _ _ (hc 0 (by have := Hl.out; omega))
      simp only at hb
      obtain ⟨y, hy⟩ : ∃ y, y = l.getD k 0 := ⟨_, rfl⟩
      have g1 : wr.cell? ⟨b, off + k, none⟩ = some (.int .u8 y) := by rw [hbel.cell hb, hy]; exact hc k (by have := Hl.out; omega)
      have hlen : (half l n k).length = n := by have := Hl.out; simp [half]; omega
      have hkk : k < (half l n k).length := by omega
      have g2 : wr.cell? ⟨w.heap.size, k, none⟩ = some (.int .u8 ((half l n k)[k])) := by rw [hown.cellAt k (by omega)]; simp [hkk]
      have g3 := hown.frozenAt k
      have R := (hown.stored k (.int .u8 y)).1
      rw [map_set_u8, hy, half_succ l n k Hl.out hlt, ← hy] at R
      have RB := hbel.setCell (p := ⟨w.heap.size, k, none⟩) (Nat.le_refl _) (.int .u8 y)
      have HR : Hid (_) := R
      have HB : Hid (_) := RB
      clear R RB hown hbel hc hy
      go_wp2
      go_roundw
      case rel => exact ⟨k + 1, by omega, by go_num, HR.out, HB.out⟩
      case measure => simp [intOf]; omega
    · obtain rfl : k = n := by omega
      rw [half_all l k Hl.out] at hown
      go_wp2
      go_ret
      exact ⟨rfl, hown, hbel⟩

theorem getD_left (l r : List Int) (i : Nat) (h : i < l.length) : (l ++ r).getD i 0 = l.getD i 0 := by simp [List.getD_eq_getElem?_getD, List.getElem?_append, h]
theorem getD_right (l r : List Int) (i : Nat) : (l ++ r).getD (l.length + i) 0 = r.getD i 0 := by
  have h : ¬ l.length + i < l.length := by omega
  simp [List.getD_eq_getElem?_getD, List.getElem?_append, h]

theorem newFields_any (a : Option Addr) (n c : Nat) (w : World) : Calls Try.prog 17 #[.slice a n c] w fun e w' => e = .returned (.pointer (some ⟨w.heap.size, 0, none⟩)) ∧ w' = w.alloc (.cells #[.slice a n c, .nilIface] 62) := by
  go_enter Try.func17, Try.ntmps17
  go_wp2
  go_ret
  exact ⟨rfl, rfl⟩

theorem newFailed_any (a : Option Addr) (n c : Nat) (w : World) : Calls Try.prog 12 #[.slice a n c] w fun e w' => e = .returned (.pointer (some ⟨w.heap.size + 1, 0, none⟩)) ∧
    ∃ o, w' = (w.alloc o).alloc (.cells #[.slice a n c, .iface 74 (.pointer (some ⟨w.heap.size, 0, none⟩))] 62) := by
  go_enter Try.func12, Try.ntmps12
  go_wp2
  go_ret
  exact ⟨rfl, _, rfl⟩

theorem rest_any (F : Nat) (v : Value) (w : World) (h : w.cell? ⟨F, 0, none⟩ = some v) : Calls Try.prog 14 #[.pointer (some ⟨F, 0, none⟩)] w fun e w' => e = .returned v ∧ w = w' := by
  go_enter Try.func14, Try.ntmps14
  go_wp2
  go_ret
  exact ⟨rfl, rfl⟩

theorem failed_no (F : Nat) (w : World) (h : w.cell? ⟨F, 1, none⟩ = some .nilIface) : Calls Try.prog 15 #[.pointer (some ⟨F, 0, none⟩)] w fun e w' => e = .returned (.bool false) ∧ w = w' := by
  go_enter Try.func15, Try.ntmps15
  go_wp2
  go_ret
  exact ⟨rfl, rfl⟩

theorem failed_yes (F : Nat) (t : TypeId) (v : Value) (w : World) (h : w.cell? ⟨F, 1, none⟩ = some (.iface t v)) : Calls Try.prog 15 #[.pointer (some ⟨F, 0, none⟩)] w fun e w' => e = .returned (.bool true) ∧ w = w' := by
  go_enter Try.func15, Try.ntmps15
  go_wp2
  go_ret
  exact ⟨rfl, rfl⟩

theorem cstr_failed (F : Nat) (t : TypeId) (v : Value) (w : World) (h : w.cell? ⟨F, 1, none⟩ = some (.iface t v)) : Calls Try.prog 36 #[.pointer (some ⟨F, 0, none⟩)] w fun e w' => e = .returned (.string ByteArray.empty) ∧ w = w' := by
  go_enter Try.func36, Try.ntmps36
  go_wp2
  go_ret
  exact ⟨rfl, rfl⟩

set_option maxHeartbeats 400000 in
theorem cstr_hit (F b off n c : Nat) (l1 l2 : List Int) (hn : l1.length + 1 + l2.length = n) (hnc : n ≤ c) (hm : n ≤ maxLen) (h0 : ∀ x ∈ l1, (x == 0) = false) (w : World)
    (hp : w.cell? ⟨F, 0, none⟩ = some (.slice (some ⟨b, off, none⟩) n c)) (he : w.cell? ⟨F, 1, none⟩ = some .nilIface) (hf : w.frozen? ⟨F, 0, none⟩ = false)
    (hc : Bys w (some ⟨b, off, none⟩) (l1 ++ 0 :: l2)) :
    Calls Try.prog 36 #[.pointer (some ⟨F, 0, none⟩)] w fun e w' => e = .returned (.string (strOfNums l1)) ∧
      ∃ a', w' = w.setCell ⟨F, 0, none⟩ (.slice (some a') l2.length (c - (l1.length + 1))) ∧ Bys w (some a') l2 ∧ a'.block = b := by
  unfold maxLen at hm
  obtain ⟨j, hj⟩ : ∃ j, j = l1.length := ⟨_, rfl⟩
  have HC : Hid (∀ i, i < n → w.cell? ⟨b, off + i, none⟩ = some (.int .u8 ((l1 ++ 0 :: l2).getD i 0))) := by
    obtain ⟨b', off', hx, hh⟩ := hc (by simp; omega)
    simp only [Option.some.injEq, Addr.mk.injEq] at hx
    obtain ⟨rfl, rfl, _⟩ := hx
    intro i hi
    exact hh i (by simp; omega)
  clear hc
  have hcv : Sem.run Try.prog (convert 22 9 (.slice (some ⟨b, off, none⟩) j c)) w = .ok (.string (strOfNums l1)) w :=
    run_convert_bytes_arg w 22 5 Try.underlying22 Try.underlying5 b off j c l1 hj.symm (fun i hi => by
      rw [HC.out i (by omega), getD_left _ _ _ (by omega)]) 9 Try.underlying9
  have e1 : n - (j + 1) = l2.length := by omega
  have E1 : Hid (n - (j + 1) = l2.length) := e1
  rw [← hj]
  have HJ : Hid (j = l1.length) := hj
  have HN : Hid (l1.length + 1 + l2.length = n) := hn
  have H0 : Hid (∀ x ∈ l1, (x == 0) = false) := h0
  have hjn : j < n := by omega
  have HB : Hid (¬ c = j + 1 → Bys w (some ⟨b, off + (j + 1), none⟩) l2) := by
    intro hne hpos
    refine ⟨b, off + (j + 1), rfl, fun i hi => ?_⟩
    rw [Nat.add_assoc, HC.out _ (by omega), hj, show l1.length + 1 + i = l1.length + (i + 1) by omega, getD_right]
    simp
  have HB2 : Hid (c = j + 1 → Bys w (some ⟨b, off, none⟩) l2) := by
    intro hne hpos
    omega
  clear hj hn h0 e1
  go_enter Try.func36, Try.ntmps36
  go_wp2
  go_loop [17] (fun i => ∃ k : Nat, k ≤ j ∧ i = .int .i64 k) (fun i => n - (intOf i).toNat)
  case atStart => exact ⟨0, Nat.zero_le _, rfl⟩
  case round =>
    obtain ⟨k, hk, rfl⟩ := hrel
    by_cases hlt : k < j
    · obtain ⟨y, hy⟩ : ∃ y, y = l1.getD k 0 := ⟨_, rfl⟩
      have hkl : k < l1.length := by have := HJ.out; omega
      have hy0 : (y == 0) = false := H0.out y (by rw [hy]; simp [hkl])
      have g1 : w.cell? ⟨b, off + k, none⟩ = some (.int .u8 y) := by
        rw [HC.out k (by omega), hy, getD_left _ _ _ hkl]
      have i2 : (k : Int) < (n : Int) := by omega
      clear hy hcv
      go_wp2
      go_round
      case rel => exact ⟨k + 1, by omega, by go_num⟩
      case measure => simp [intOf]; omega
    · obtain rfl : k = j := by omega
      have g1 : w.cell? ⟨b, off + k, none⟩ = some (.int .u8 0) := by
        rw [HC.out k (by omega)]; simp [HJ.out]
      have i2 : (k : Int) < (n : Int) := by omega
      have i3 : (k : Int) ≤ (c : Int) := by omega
      go_wp2
      · go_ret
        exact ⟨rfl, _, by rw [← E1.out], HB2.out ‹_›, rfl⟩
      · go_ret
        exact ⟨rfl, _, by rw [← E1.out], HB.out ‹_›, rfl⟩

/-- No zero byte: the string is all of it, the rest is nil. -/
theorem cstr_miss (F : Nat) (a : Option Addr) (n c : Nat) (l1 : List Int) (hn : l1.length = n) (hm : n ≤ maxLen) (h0 : ∀ x ∈ l1, (x == 0) = false) (w : World)
    (hp : w.cell? ⟨F, 0, none⟩ = some (.slice a n c)) (he : w.cell? ⟨F, 1, none⟩ = some .nilIface) (hf : w.frozen? ⟨F, 0, none⟩ = false)
    (hc : Bys w a l1) :
    Calls Try.prog 36 #[.pointer (some ⟨F, 0, none⟩)] w fun e w' => e = .returned (.string (strOfNums l1)) ∧ w' = w.setCell ⟨F, 0, none⟩ (.slice none 0 0) := by
  unfold maxLen at hm
  by_cases hz : n = 0
  · subst hz
    obtain rfl : l1 = [] := List.eq_nil_of_length_eq_zero hn
    have hcv : Sem.run Try.prog (convert 22 9 (.slice a 0 c)) w = .ok (.string (strOfNums [])) w := by
      cases a with
      | none => rw [run_convert_bytes_nil w 22 5 Try.underlying22 Try.underlying5 0 c 9 Try.underlying9]; rfl
      | some x =>
        rw [run_convert_bytes_string w 22 9 5 _ 0 c Try.underlying22 Try.underlying5 Try.underlying9, run_bytesToString w _ 0 c [] (by simp [loadCells, loadCellsFrom])]
        rfl
    clear hc h0 hn
    go_enter Try.func36, Try.ntmps36
    go_wp2
    refine wp_loop_rounds 1 ?_
    rw [rounds_succ]
    go_wp2
    go_ret
    exact ⟨rfl, rfl⟩
  · obtain ⟨b, off, rfl, hc'⟩ := hc (by omega)
    have HC : Hid (∀ i, i < n → w.cell? ⟨b, off + i, none⟩ = some (.int .u8 (l1.getD i 0))) := by rw [← hn]; exact hc'
    clear hc hc'
    have hcv : Sem.run Try.prog (convert 22 9 (.slice (some ⟨b, off, none⟩) n c)) w = .ok (.string (strOfNums l1)) w :=
      run_convert_bytes_arg w 22 5 Try.underlying22 Try.underlying5 b off n c l1 hn HC.out 9 Try.underlying9
    have HN : Hid (l1.length = n) := hn
    have H0 : Hid (∀ x ∈ l1, (x == 0) = false) := h0
    clear hn h0 hz
    go_enter Try.func36, Try.ntmps36
    go_wp2
    go_loop [17] (fun i => ∃ k : Nat, k ≤ n ∧ i = .int .i64 k) (fun i => n - (intOf i).toNat)
    case atStart => exact ⟨0, Nat.zero_le _, rfl⟩
    case round =>
      obtain ⟨k, hk, rfl⟩ := hrel
      by_cases hlt : k < n
      · obtain ⟨y, hy⟩ : ∃ y, y = l1.getD k 0 := ⟨_, rfl⟩
        have hkl : k < l1.length := by have := HN.out; omega
        have hy0 : (y == 0) = false := H0.out y (by rw [hy]; simp [hkl])
        have g1 : w.cell? ⟨b, off + k, none⟩ = some (.int .u8 y) := by rw [HC.out k hlt, hy]
        have i2 : (k : Int) < (n : Int) := by omega
        clear hy hcv
        go_wp2
        go_round
        case rel => exact ⟨k + 1, by omega, by go_num⟩
        case measure => simp [intOf]; omega
      · obtain rfl : k = n := by omega
        go_wp2
        go_ret
        exact ⟨rfl, rfl⟩

theorem Bys.below {w w' : World} {a : Option Addr} {l : List Int} (h : Bys w a l) (hb : Below w.heap.size w w') : Bys w' a l := by
  intro hp
  obtain ⟨b, off, rfl, hc⟩ := h hp
  refine ⟨b, off, rfl, fun i hi => ?_⟩
  have := World.block_lt_of_cell? _ _ (hc i hi)
  rw [hb.cell this]
  exact hc i hi

theorem Bys.setCell {w : World} {a : Option Addr} {l : List Int} (h : Bys w a l) {p : Addr} (hp : ∀ x, a = some x → x.block ≠ p.block) (u : Value) : Bys (w.setCell p u) a l := by
  intro hl
  obtain ⟨b, off, rfl, hc⟩ := h hl
  refine ⟨b, off, rfl, fun i hi => ?_⟩
  have hne := hp _ rfl
  rw [World.cell?_of_block (w := w) (Below.heap_setCell w p u _ (by simpa using hne))]
  exact hc i hi

theorem Bys.drewN {w : World} {a : Option Addr} {l : List Int} (h : Bys w a l) (n : Nat) : Bys (w.drewN n) a l := h

theorem Bys.owned {w : World} {base g n c : Nat} {l : List Int} (h : w.ownsRow base 5 1 (.slice (some ⟨g, 0, none⟩) n c) n (l.map (Value.int .u8))) : Bys w (some ⟨g, 0, none⟩) l := by
  intro hp
  refine ⟨g, 0, rfl, fun i hi => ?_⟩
  have hl := h.1
  simp only [List.length_map] at hl
  rw [Nat.zero_add, h.cellAt i (by omega)]
  simp [hi]

theorem Bys.lt {w : World} {x : Addr} {l : List Int} (h : Bys w (some x) l) (hp : 0 < l.length) : x.block < w.heap.size := by
  obtain ⟨b, off, hx, hc⟩ := h hp
  simp only [Option.some.injEq] at hx
  subst hx
  exact World.block_lt_of_cell? _ _ (hc 0 hp)

/-- zzCloneBytes, at every slice of at most 1048576 bytes: new memory, the same bytes; nil stays nil. -/
theorem clone_any (a : Option Addr) (n c : Nat) (l : List Int) (hl : l.length = n) (hm : n ≤ 1048576) (hn : a = none → n = 0) (w : World) (h1 : Bys w a l) :
    Calls Try.prog 11 #[.slice a n c] w fun e w' => ∃ a', e = .returned (.slice a' n n) ∧ a'.isNone = a.isNone ∧ Bys w' a' l ∧ Below w.heap.size w w' ∧ (a' = none → n = 0) ∧ (∀ x, a' = some x → x = ⟨w.heap.size, 0, none⟩) := by
  cases a with
  | none =>
    obtain rfl := hn rfl
    refine (clone_nil 0 c w).mono ?_
    rintro e w' ⟨rfl, rfl⟩
    exact ⟨none, rfl, rfl, fun h => by omega, Below.refl _ _, fun _ => rfl, by simp⟩
  | some x =>
    refine (clone_some x n c l hl hm w h1).mono ?_
    rintro e w' ⟨rfl, ho, hb⟩
    exact ⟨_, rfl, rfl, Bys.owned ho, hb, by simp, by simp⟩
end Go.Proofs.Qxb6615469a
