import Derived.Test.Qxb6605874aBase
namespace Go.Proofs.Qxb6605874a
open Go.RowKit
set_option linter.unusedVariables false

set_option maxHeartbeats 2000000 in
theorem guard5_any (cs : Array Value) (id key : ByteArray) (dg : List Int) (ow tx : ByteArray) (a : Option Addr) (n c : Nat) (rs : List (ByteArray × Int × Int)) (h : Tx cs id key dg ow tx a n c) (hl : rs.length = n) (hn : n ≤ maxLen)
    (hid : id.size ≤ maxLen) (hkey : key.size ≤ maxLen) (how : ow.size ≤ maxLen) (htx : tx.size ≤ maxLen) (hrs : ∀ r ∈ rs, r.1.size ≤ maxLen) (w : World) (hr : Res w a rs) :
    Calls Try.prog 5 #[.agg cs] w fun e w' => IsBool e ∧ Below w.heap.size w w' := by
  obtain ⟨hsz, hdgl, f0, f1, f2, f18, f19, f20⟩ := h
  have HR : Hid (Res (w.alloc (.cells cs 25)) a rs) := hr.below ((Below.refl _ _).alloc (Nat.le_refl _) _)
  have HB : Hid (Below w.heap.size w (w.alloc (.cells cs 25))) := (Below.refl _ _).alloc (Nat.le_refl _) _
  have HL : Hid (rs.length = n) := hl
  have HRS : Hid (∀ r ∈ rs, r.1.size ≤ maxLen) := hrs
  unfold maxLen at hn hid hkey how htx
  clear hsz hdgl f2 hr hl hrs
  go_enter Try.func5, Try.ntmps5
  go_wp2
  all_goals first | (go_ret; exact ⟨IsBool.mk _, HB.out⟩) | skip
  go_loop [3, 4] (fun t i => ∃ (k : Nat) (z : Int), k ≤ n ∧ i = .int .i64 k ∧ t = .int .i64 z ∧ 0 ≤ z ∧ z ≤ 1048576) (fun _ i => n - (intOf i).toNat)
  case atStart => exact ⟨0, _, Nat.zero_le _, rfl, rfl, by omega, by omega⟩
  case round =>
    obtain ⟨k, z, hk, rfl, rfl, hz0, hz1⟩ := hrel
    by_cases hlt : k < n
    · obtain ⟨b, off, rfl, hc⟩ := HR.out (by have := HL.out; omega)
      have hkl : k < rs.length := by have := HL.out; omega
      obtain ⟨s, hss⟩ : ∃ s, s = rs[k].1 := ⟨_, rfl⟩
      have g1 : (w.alloc (.cells cs 25)).cell? ⟨b, off + k * 3, none⟩ = some (.string s) := by rw [hss]; exact (hc k hkl).1
      have hsl : s.size ≤ 9223372036854775807 := by
        have := HRS.out rs[k] (List.getElem_mem hkl)
        rw [← hss] at this
        unfold maxLen at this
        omega
      clear hss hc
      by_cases hs1 : 1048576 < s.size
      · go_wp2
        go_ret
        exact ⟨IsBool.mk _, HB.out⟩
      · have hs2 : s.size ≤ 1048576 := by omega
        clear hs1
        by_cases hs3 : 1048576 < z + s.size
        · go_wp2
          go_ret
          exact ⟨IsBool.mk _, HB.out⟩
        · have hs4 : z + s.size ≤ 1048576 := by omega
          clear hs3
          go_wp2
          go_round
          case rel => exact ⟨k + 1, _, by omega, by go_num, rfl, by omega, by omega⟩
          case measure => simp [intOf]; omega
    · go_wp2
      go_ret
      exact ⟨IsBool.mk _, HB.out⟩

set_option maxHeartbeats 2000000 in
theorem guard12_any (cs : Array Value) (id key : ByteArray) (dg : List Int) (ow tx : ByteArray) (a : Option Addr) (n c : Nat) (rs : List (ByteArray × Int × Int)) (h : Tx cs id key dg ow tx a n c) (hl : rs.length = n) (hn : n ≤ maxLen)
    (hid : id.size ≤ maxLen) (hkey : key.size ≤ maxLen) (how : ow.size ≤ maxLen) (htx : tx.size ≤ maxLen) (hrs : ∀ r ∈ rs, r.1.size ≤ maxLen) (w : World) (hr : Res w a rs) :
    Calls Try.prog 12 #[.agg cs] w fun e w' => IsBool e ∧ Below w.heap.size w w' := by
  obtain ⟨hsz, hdgl, f0, f1, f2, f18, f19, f20⟩ := h
  have HR : Hid (Res (w.alloc (.cells cs 25)) a rs) := hr.below ((Below.refl _ _).alloc (Nat.le_refl _) _)
  have HB : Hid (Below w.heap.size w (w.alloc (.cells cs 25))) := (Below.refl _ _).alloc (Nat.le_refl _) _
  have HL : Hid (rs.length = n) := hl
  have HRS : Hid (∀ r ∈ rs, r.1.size ≤ maxLen) := hrs
  unfold maxLen at hn hid hkey how htx
  clear hsz hdgl f2 hr hl hrs
  go_enter Try.func12, Try.ntmps12
  go_wp2
  all_goals first | (go_ret; exact ⟨IsBool.mk _, HB.out⟩) | skip
  go_loop [3, 4] (fun t i => ∃ (k : Nat) (z : Int), k ≤ n ∧ i = .int .i64 k ∧ t = .int .i64 z ∧ 0 ≤ z ∧ z ≤ 1048576) (fun _ i => n - (intOf i).toNat)
  case atStart => exact ⟨0, _, Nat.zero_le _, rfl, rfl, by omega, by omega⟩
  case round =>
    obtain ⟨k, z, hk, rfl, rfl, hz0, hz1⟩ := hrel
    by_cases hlt : k < n
    · obtain ⟨b, off, rfl, hc⟩ := HR.out (by have := HL.out; omega)
      have hkl : k < rs.length := by have := HL.out; omega
      obtain ⟨s, hss⟩ : ∃ s, s = rs[k].1 := ⟨_, rfl⟩
      have g1 : (w.alloc (.cells cs 25)).cell? ⟨b, off + k * 3, none⟩ = some (.string s) := by rw [hss]; exact (hc k hkl).1
      have hsl : s.size ≤ 9223372036854775807 := by
        have := HRS.out rs[k] (List.getElem_mem hkl)
        rw [← hss] at this
        unfold maxLen at this
        omega
      clear hss hc
      by_cases hs1 : 1048576 < s.size
      · go_wp2
        go_ret
        exact ⟨IsBool.mk _, HB.out⟩
      · have hs2 : s.size ≤ 1048576 := by omega
        clear hs1
        by_cases hs3 : 1048576 < z + s.size
        · go_wp2
          go_ret
          exact ⟨IsBool.mk _, HB.out⟩
        · have hs4 : z + s.size ≤ 1048576 := by omega
          clear hs3
          go_wp2
          go_round
          case rel => exact ⟨k + 1, _, by omega, by go_num, rfl, by omega, by omega⟩
          case measure => simp [intOf]; omega
    · go_wp2
      go_ret
      exact ⟨IsBool.mk _, HB.out⟩

theorem add_any (n m : Int) (w : World) (h1 : 0 ≤ n) (h2 : 0 ≤ m) (h3 : n ≤ 9223372036854775807) (h4 : m ≤ 9223372036854775807) : Calls Try.prog 15 #[.int .i64 n, .int .i64 m] w fun e w' => ∃ r, e = .returned (.int .i64 r) ∧ w = w' ∧ 0 ≤ r ∧ r ≤ 2097152 ∧ (r ≤ 1048576 → r = n + m) := by
  by_cases c1 : n ≤ 1048576
  · by_cases c2 : m ≤ 1048576
    · go_enter Try.func15, Try.ntmps15
      go_wp2
      go_ret
      exact ⟨_, rfl, rfl, by omega, by omega, fun _ => rfl⟩
    · go_enter Try.func15, Try.ntmps15
      go_wp2
      all_goals (go_ret; exact ⟨_, rfl, rfl, by omega, by omega, fun h => by omega⟩)
  · go_enter Try.func15, Try.ntmps15
    go_wp2
    all_goals (go_ret; exact ⟨_, rfl, rfl, by omega, by omega, fun h => by omega⟩)

/-- What the resources are charged. -/
def charge : List (ByteArray × Int × Int) → Int
  | [] => 0
  | r :: l => 32 + r.1.size + charge l
theorem charge_snoc (l : List (ByteArray × Int × Int)) (r : ByteArray × Int × Int) : charge (l ++ [r]) = charge l + (r.1.size + 32) := by
  induction l with
  | nil => simp [charge]; omega
  | cons x l ih => simp only [List.cons_append, charge, ih]; omega
theorem charge_nonneg (l : List (ByteArray × Int × Int)) : 0 ≤ charge l := by
  induction l with
  | nil => simp [charge]
  | cons x l ih => simp only [charge]; omega

set_option maxHeartbeats 1000000 in
theorem resBytes_any (a : Option Addr) (n c : Nat) (rs : List (ByteArray × Int × Int)) (hl : rs.length = n) (hn : n ≤ maxLen) (hrs : ∀ r ∈ rs, r.1.size ≤ maxLen) (w : World) (hr : Res w a rs) :
    Calls Try.prog 16 #[.slice a n c] w fun e w' => ∃ r, e = .returned (.int .i64 r) ∧ w = w' ∧ 0 ≤ r ∧ r ≤ 2097152 ∧ (r ≤ 1048576 → r = charge rs) := by
  unfold maxLen at hn
  have HR : Hid (Res w a rs) := hr
  have HL : Hid (rs.length = n) := hl
  have HRS : Hid (∀ r ∈ rs, r.1.size ≤ maxLen) := hrs
  clear hr hl hrs
  go_enter Try.func16, Try.ntmps16
  go_wp2
  go_loop [3, 4] (fun t i => ∃ (k : Nat) (z : Int), k ≤ n ∧ i = .int .i64 k ∧ t = .int .i64 z ∧ 0 ≤ z ∧ z ≤ 2097152 ∧ Hid (z ≤ 1048576 → z = charge (rs.take k))) (fun _ i => n - (intOf i).toNat)
  case atStart => exact ⟨0, _, Nat.zero_le _, rfl, rfl, by omega, by omega, fun _ => rfl⟩
  case round =>
    obtain ⟨k, z, hk, rfl, rfl, hz0, hz1, HZ⟩ := hrel
    by_cases hlt : k < n
    · obtain ⟨b, off, rfl, hc⟩ := HR.out (by have := HL.out; omega)
      have hkl : k < rs.length := by have := HL.out; omega
      obtain ⟨s, hss⟩ : ∃ s, s = rs[k].1 := ⟨_, rfl⟩
      have HSS : Hid (s = rs[k].1) := hss
      have g1 : w.cell? ⟨b, off + k * 3, none⟩ = some (.string s) := by rw [hss]; exact (hc k hkl).1
      have hsl : s.size ≤ 9223372036854775807 := by
        have := HRS.out rs[k] (List.getElem_mem hkl)
        rw [← hss] at this
        unfold maxLen at this
        omega
      clear hss hc
      go_wp2_with fail
      refine (add_any s.size 32 _ (by omega) (by omega) (by omega) (by omega)).mono ?_
      rintro e w' ⟨r1, rfl, rfl, a1, a2, a3⟩
      have HA1 : Hid (r1 ≤ 1048576 → r1 = s.size + 32) := a3
      clear a3
      go_wp2_with fail
      refine (add_any z r1 _ hz0 a1 (by omega) (by omega)).mono ?_
      rintro e w' ⟨r2, rfl, rfl, b1, b2, b3⟩
      have HA2 : Hid (r2 ≤ 1048576 → r2 = charge (rs.take (k + 1))) := by
        intro h
        have e1 := b3 h
        have e2 := HZ.out (by omega)
        have e3 := HA1.out (by omega)
        rw [List.take_succ_eq_append_getElem hkl, charge_snoc, ← HSS.out]
        omega
      clear b3
      go_wp2
      go_round
      case rel => exact ⟨k + 1, _, by omega, by go_num, rfl, b1, b2, HA2⟩
      case measure => simp [intOf]; omega
    · have HZ' : Hid (z ≤ 1048576 → z = charge rs) := by
        intro h
        have := HZ.out h
        rw [List.take_of_length_le (by have := HL.out; omega)] at this
        exact this
      clear HZ
      go_wp2
      go_ret
      exact ⟨_, rfl, rfl, hz0, hz1, HZ'.out⟩

set_option maxHeartbeats 1000000 in
theorem textBytes_any (cs : Array Value) (id key : ByteArray) (dg : List Int) (ow tx : ByteArray) (a : Option Addr) (n c : Nat) (rs : List (ByteArray × Int × Int)) (h : Tx cs id key dg ow tx a n c) (hl : rs.length = n) (hn : n ≤ maxLen)
    (hid : id.size ≤ maxLen) (hkey : key.size ≤ maxLen) (how : ow.size ≤ maxLen) (htx : tx.size ≤ maxLen) (hrs : ∀ r ∈ rs, r.1.size ≤ maxLen) (w : World) (hr : Res w a rs) :
    Calls Try.prog 6 #[.agg cs] w fun e w' => ∃ r, e = .returned (.int .i64 r) ∧ Below w.heap.size w w' ∧ 0 ≤ r ∧ r ≤ 2097152 ∧ (r ≤ 1048576 → (id.size : Int) + key.size + 16 + ow.size + tx.size + charge rs ≤ 1048576) := by
  obtain ⟨hsz, hdgl, f0, f1, f2, f18, f19, f20⟩ := h
  have HR : Hid (Res (w.alloc (.cells cs 25)) a rs) := hr.below ((Below.refl _ _).alloc (Nat.le_refl _) _)
  have HB : Hid (Below w.heap.size w (w.alloc (.cells cs 25))) := (Below.refl _ _).alloc (Nat.le_refl _) _
  have HL : Hid (rs.length = n) := hl
  have HN : Hid (n ≤ maxLen) := hn
  have HRS : Hid (∀ r ∈ rs, r.1.size ≤ maxLen) := hrs
  unfold maxLen at hid hkey how htx
  clear hsz hdgl f2 hr hl hrs hn
  go_enter Try.func6, Try.ntmps6
  go_wp2_with fail
  refine (add_any id.size key.size _ (by omega) (by omega) (by omega) (by omega)).mono ?_
  rintro e w' ⟨r1, rfl, rfl, a1, b1, e1⟩
  have E1 : Hid _ := e1
  clear e1
  go_wp2_with fail
  refine (add_any r1 16 _ (by omega) (by omega) (by omega) (by omega)).mono ?_
  rintro e w' ⟨r2, rfl, rfl, a2, b2, e2⟩
  have E2 : Hid _ := e2
  clear e2
  go_wp2_with fail
  refine (add_any r2 ow.size _ (by omega) (by omega) (by omega) (by omega)).mono ?_
  rintro e w' ⟨r3, rfl, rfl, a3, b3, e3⟩
  have E3 : Hid _ := e3
  clear e3
  go_wp2_with fail
  refine (add_any r3 tx.size _ (by omega) (by omega) (by omega) (by omega)).mono ?_
  rintro e w' ⟨r4, rfl, rfl, a4, b4, e4⟩
  have E4 : Hid _ := e4
  clear e4
  go_wp2_with fail
  refine (resBytes_any a n c rs HL.out HN.out HRS.out _ HR.out).mono ?_
  rintro e w' ⟨r5, rfl, rfl, a5, b5, e5⟩
  have E5 : Hid _ := e5
  clear e5
  go_wp2_with fail
  refine (add_any r4 r5 _ (by omega) (by omega) (by omega) (by omega)).mono ?_
  rintro e w' ⟨r6, rfl, rfl, a6, b6, e6⟩
  have E6 : Hid (r6 ≤ 1048576 → (id.size : Int) + key.size + 16 + ow.size + tx.size + charge rs ≤ 1048576) := by
    intro h
    have x6 := e6 h
    have x5 := E5.out (by omega)
    have x4 := E4.out (by omega)
    have x3 := E3.out (by omega)
    have x2 := E2.out (by omega)
    have x1 := E1.out (by omega)
    omega
  clear e6 E1 E2 E3 E4 E5
  go_wp2
  go_ret
  exact ⟨_, rfl, HB.out, a6, b6, E6.out⟩

set_option maxHeartbeats 1000000 in
theorem modesOK_any (a : Option Addr) (n c : Nat) (rs : List (ByteArray × Int × Int)) (hl : rs.length = n) (hn : n ≤ maxLen) (w : World) (hr : Res w a rs) :
    Calls Try.prog 7 #[.slice a n c] w fun e w' => IsBool e ∧ w = w' := by
  unfold maxLen at hn
  have HR : Hid (Res w a rs) := hr
  have HL : Hid (rs.length = n) := hl
  clear hr hl
  go_enter Try.func7, Try.ntmps7
  go_wp2
  go_loop [3] (fun i => ∃ (k : Nat), k ≤ n ∧ i = .int .i64 k) (fun i => n - (intOf i).toNat)
  case atStart => exact ⟨0, Nat.zero_le _, rfl⟩
  case round =>
    obtain ⟨k, hk, rfl⟩ := hrel
    by_cases hlt : k < n
    · obtain ⟨b, off, rfl, hc⟩ := HR.out (by have := HL.out; omega)
      have hkl : k < rs.length := by have := HL.out; omega
      obtain ⟨s, hss⟩ : ∃ s, s = rs[k].2.1 := ⟨_, rfl⟩
      have g1 : w.cell? ⟨b, off + k * 3 + 1, none⟩ = some (.int .i64 s) := by rw [hss]; exact (hc k hkl).2.1
      clear hss hc
      by_cases hs1 : s < 0
      · go_wp2
        all_goals (go_ret; exact ⟨IsBool.mk _, rfl⟩)
      · by_cases hs2 : 127 < s
        · go_wp2
          all_goals (go_ret; exact ⟨IsBool.mk _, rfl⟩)
        · go_wp2
          go_round
          case rel => exact ⟨k + 1, by omega, by go_num⟩
          case measure => simp [intOf]; omega
    · go_wp2
      go_ret
      exact ⟨IsBool.mk _, rfl⟩
end Go.Proofs.Qxb6605874a
