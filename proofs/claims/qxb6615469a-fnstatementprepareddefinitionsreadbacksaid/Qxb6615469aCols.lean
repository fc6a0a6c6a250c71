import Derived.Test.Qxb6615469aStmt
namespace Go.Proofs.Qxb6615469a
open Go.RowKit
set_option linter.unusedVariables false

/-- The strings ss lie from a on. -/
def Strs (w : World) (a : Option Addr) (ss : List ByteArray) : Prop :=
  0 < ss.length → ∃ b off, a = some ⟨b, off, none⟩ ∧ ∀ i, i < ss.length → w.cell? ⟨b, off + i, none⟩ = some (.string (ss.getD i ByteArray.empty))

/-- It returned a bool. -/
def IsBool (e : Ending) : Prop := ∃ r, e = .returned (.bool r)
theorem IsBool.mk (r : Bool) : IsBool (.returned (.bool r)) := ⟨r, rfl⟩

/-- What zzColumnsTooBig answers. -/
def Told (n n2 : Nat) (ss : List ByteArray) (e : Ending) : Prop := ∃ r, e = .returned (.bool r) ∧ (r = false → n ≤ 65536 ∧ n2 ≤ 65536 ∧ ∀ i, i < n → (ss.getD i ByteArray.empty).size ≤ 1048576)
theorem Told.yes (n n2 : Nat) (ss : List ByteArray) : Told n n2 ss (.returned (.bool true)) := ⟨true, rfl, by simp⟩
theorem Told.mk {n n2 : Nat} {ss : List ByteArray} (r : Bool) (h : n ≤ 65536 ∧ n2 ≤ 65536 ∧ ∀ i, i < n → (ss.getD i ByteArray.empty).size ≤ 1048576) : Told n n2 ss (.returned (.bool r)) := ⟨r, rfl, fun _ => h⟩

set_option maxHeartbeats 1000000 in
theorem guard29_any (id st q : Int) (a a2 : Option Addr) (n c n2 c2 : Nat) (ss : List ByteArray) (hl : ss.length = n) (hm : n ≤ maxLen) (hm2 : n2 ≤ maxLen) (hs : ∀ s ∈ ss, s.size ≤ maxLen) (w : World) (h : Strs w a ss) :
    Calls Try.prog 29 #[.int .u32 id, .slice a n c, .slice a2 n2 c2, .int .u16 st, .int .i64 q] w fun e w' => IsBool e ∧ w = w' := by
  unfold maxLen at hm hm2
  have HL : Hid (ss.length = n) := hl
  have HS : Hid (∀ s ∈ ss, s.size ≤ maxLen) := hs
  have H : Hid (Strs w a ss) := h
  clear hl hs h
  by_cases hbig : 1048576 < n
  · go_enter Try.func29, Try.ntmps29
    go_wp2
    go_ret
    exact ⟨IsBool.mk _, rfl⟩
  have hsm : n ≤ 1048576 := by omega
  clear hbig
  go_enter Try.func29, Try.ntmps29
  go_wp2
  go_loop [11, 12] (fun t i => ∃ (k : Nat) (z : Int), k ≤ n ∧ i = .int .i64 k ∧ t = .int .i64 z ∧ 0 ≤ z ∧ z ≤ 1048576) (fun _ i => n - (intOf i).toNat)
  case atStart => exact ⟨0, _, Nat.zero_le _, rfl, rfl, by omega, by omega⟩
  case round =>
    obtain ⟨k, z, hk, rfl, rfl, hz0, hz1⟩ := hrel
    by_cases hlt : k < n
    · obtain ⟨b, off, rfl, hc⟩ := H.out (by have := HL.out; omega)
      obtain ⟨s, hss⟩ : ∃ s, s = ss.getD k ByteArray.empty := ⟨_, rfl⟩
      have g1 : w.cell? ⟨b, off + k, none⟩ = some (.string s) := by rw [hss]; exact hc k (by have := HL.out; omega)
      have hsl : s.size ≤ 9223372036854775807 := by
        have hk' : k < ss.length := by have := HL.out; omega
        have := HS.out s (by rw [hss]; simp [hk'])
        unfold maxLen at this
        omega
      clear hss hc
      by_cases hs1 : 1048576 < s.size
      · go_wp2
        go_ret
        exact ⟨IsBool.mk _, rfl⟩
      · have hs2 : s.size ≤ 1048576 := by omega
        clear hs1
        by_cases hs3 : 1048576 < z + s.size
        · go_wp2
          go_ret
          exact ⟨IsBool.mk _, rfl⟩
        · have hs4 : z + s.size ≤ 1048576 := by omega
          clear hs3
          go_wp2
          go_round
          case rel => exact ⟨k + 1, _, by omega, by go_num, rfl, by omega, by omega⟩
          case measure => simp [intOf]; omega
    · by_cases h2 : 1048576 < n2
      · go_wp2
        all_goals (go_ret; exact ⟨IsBool.mk _, rfl⟩)
      · have h3 : n2 ≤ 1048576 := by omega
        clear h2
        go_wp2
        all_goals (go_ret; exact ⟨IsBool.mk _, rfl⟩)

set_option maxHeartbeats 1000000 in
theorem tooBig_any (a a2 : Option Addr) (n c n2 c2 : Nat) (ss : List ByteArray) (hl : ss.length = n) (hm : n ≤ maxLen) (hm2 : n2 ≤ maxLen) (hs : ∀ s ∈ ss, s.size ≤ maxLen) (w : World) (h : Strs w a ss) :
    Calls Try.prog 30 #[.slice a n c, .slice a2 n2 c2] w fun e w' => Told n n2 ss e ∧ w = w' := by
  unfold maxLen at hm hm2
  have HL : Hid (ss.length = n) := hl
  have HS : Hid (∀ s ∈ ss, s.size ≤ maxLen) := hs
  have H : Hid (Strs w a ss) := h
  clear hl hs h
  by_cases hbig : 65536 < n
  · go_enter Try.func30, Try.ntmps30
    go_wp2
    all_goals (go_ret; exact ⟨Told.yes _ _ _, rfl⟩)
  have hsm : n ≤ 65536 := by omega
  clear hbig
  by_cases hbig : 65536 < n2
  · go_enter Try.func30, Try.ntmps30
    go_wp2
    all_goals (go_ret; exact ⟨Told.yes _ _ _, rfl⟩)
  have hsm2 : n2 ≤ 65536 := by omega
  clear hbig
  go_enter Try.func30, Try.ntmps30
  go_wp2
  go_loop [5, 6] (fun t i => ∃ (k : Nat) (z : Int), k ≤ n ∧ i = .int .i64 k ∧ t = .int .i64 z ∧ 0 ≤ z ∧ z ≤ 1048576 ∧ Hid (∀ i, i < k → (ss.getD i ByteArray.empty).size ≤ 1048576)) (fun _ i => n - (intOf i).toNat)
  case atStart => exact ⟨0, _, Nat.zero_le _, rfl, rfl, by omega, by omega, fun i hi => by omega⟩
  case round =>
    obtain ⟨k, z, hk, rfl, rfl, hz0, hz1, HA⟩ := hrel
    by_cases hlt : k < n
    · obtain ⟨b, off, rfl, hc⟩ := H.out (by have := HL.out; omega)
      obtain ⟨s, hss⟩ : ∃ s, s = ss.getD k ByteArray.empty := ⟨_, rfl⟩
      have HSS : Hid (s = ss.getD k ByteArray.empty) := hss
      have g1 : w.cell? ⟨b, off + k, none⟩ = some (.string s) := by rw [hss]; exact hc k (by have := HL.out; omega)
      have hsl : s.size ≤ 9223372036854775807 := by
        have hk' : k < ss.length := by have := HL.out; omega
        have := HS.out s (by rw [hss]; simp [hk'])
        unfold maxLen at this
        omega
      clear hss hc
      by_cases hs1 : 1048576 < s.size
      · go_wp2
        go_ret
        exact ⟨Told.yes _ _ _, rfl⟩
      · have hs2 : s.size ≤ 1048576 := by omega
        clear hs1
        by_cases hs3 : 1048576 < z + (8 + s.size)
        · go_wp2
          go_ret
          exact ⟨Told.yes _ _ _, rfl⟩
        · have hs4 : z + (8 + s.size) ≤ 1048576 := by omega
          clear hs3
          have HA2 : Hid (∀ i, i < k + 1 → (ss.getD i ByteArray.empty).size ≤ 1048576) := by
            intro i hi
            rcases Nat.lt_or_ge i k with hik | hik
            · exact HA.out i hik
            · obtain rfl : i = k := by omega
              rw [← HSS.out]; exact hs2
          go_wp2
          go_round
          case rel => exact ⟨k + 1, _, by omega, by go_num, rfl, by omega, by omega, HA2⟩
          case measure => simp [intOf]; omega
    · obtain rfl : k = n := by omega
      go_wp2
      all_goals (go_ret; exact ⟨Told.mk _ ⟨hsm, hsm2, HA.out⟩, rfl⟩)

theorem msgCount_any (n : Nat) (hn : n ≤ 65536) (w : World) : Calls Try.prog 32 #[.int .i64 n] w fun e w' => e = .returned (.int .i64 ((if n = 0 then 1 else n + 2 : Nat) : Int)) ∧ w = w' := by
  by_cases h0 : n = 0
  · subst h0
    go_enter Try.func32, Try.ntmps32
    go_wp2
    go_ret
    exact ⟨rfl, rfl⟩
  · have hne : ((n : Int) == 0) = false := by simp; omega
    rw [if_neg h0]
    clear h0
    go_enter Try.func32, Try.ntmps32
    go_wp2
    go_ret
    exact ⟨by simp, rfl⟩
end Go.Proofs.Qxb6615469a
