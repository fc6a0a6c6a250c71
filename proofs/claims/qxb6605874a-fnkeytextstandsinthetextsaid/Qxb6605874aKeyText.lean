import Derived.Test.Qxb6605874aEncode
namespace Go.Proofs.Qxb6605874a
open Go.RowKit
set_option linter.unusedVariables false

/-- The zero value of a packed. -/
def Z48 : Array Value := ((List.replicate 160 (Value.int .u8 0)) ++ [Value.int .i32 0, Value.int .u32 0, Value.int .i32 0, Value.int .i32 0, Value.int .i32 0, Value.int .i32 0]).toArray

theorem z48 : ∃ Z : Array Value, (∀ w, Sem.run Try.prog (zeroValue 48) w = .ok (.agg Z) w) ∧ Z.size = 166 ∧ Z[160]? = some (.int .i32 0) ∧ Z[162]? = some (.int .i32 0) ∧ Z[163]? = some (.int .i32 0) ∧ Z[164]? = some (.int .i32 0) ∧ Z[165]? = some (.int .i32 0) := by
  refine ⟨Z48, fun w => ?_, by kernel_rfl, by kernel_rfl, by kernel_rfl, by kernel_rfl, by kernel_rfl, by kernel_rfl⟩
  have h : (Try.prog.info? 48).map (fun i => i.zero) = some (some (.agg Z48)) := by kernel_rfl
  obtain ⟨i, hi, hz⟩ := Option.map_eq_some_iff.1 h
  simp [zeroValue, typeInfo, hi, hz]

theorem below_drewN {B : Nat} {a w : World} (h : Below B a w) (n : Nat) : Below B a (w.drewN n) := ⟨h.os, h.tape, h.output, h.size, h.block⟩

set_option maxHeartbeats 400000 in
theorem keyed_any (P : Nat) (x y : Int) (w : World) (h1 : w.cell? ⟨P, 162, none⟩ = some (.int .i32 x)) (h2 : w.cell? ⟨P, 163, none⟩ = some (.int .i32 y)) :
    Calls Try.prog 20 #[.pointer (some ⟨P, 0, none⟩)] w fun e w' => e = .returned (.bool (decide (x < y))) ∧ ∃ m, w' = w.drewN m := by
  go_enter Try.func20, Try.ntmps20
  go_wp2_with fail
  go_quiet (fail)
  go_wp2
  go_ret
  exact ⟨rfl, _, rfl⟩

set_option maxHeartbeats 400000 in
theorem keyText_yes (P g n c k o : Nat) (w : World) (h1 : w.cell? ⟨P, 162, none⟩ = some (.int .i32 k)) (h2 : w.cell? ⟨P, 163, none⟩ = some (.int .i32 o)) (hko : k + 16 < o) (ho : o ≤ n) (hnc : n ≤ c) (hc : o ≤ 100000000) :
    Calls Try.prog 18 #[.agg #[.pointer (some ⟨P, 0, none⟩), .slice (some ⟨g, 0, none⟩) n c]] w fun e w' => e = .returned (.slice (some ⟨g, k, none⟩) (o - 16 - k) (c - k)) ∧ Below w.heap.size w w' := by
  have hP : P < w.heap.size := by simpa using World.block_lt_of_cell? _ _ h1
  have hPn : ¬ P = w.heap.size := by omega
  have e1 := Lib.cell?_alloc_some (.cells #[.pointer (some ⟨P, 0, none⟩), .slice (some ⟨g, 0, none⟩) n c] 50) h1
  have e2 := Lib.cell?_alloc_some (.cells #[.pointer (some ⟨P, 0, none⟩), .slice (some ⟨g, 0, none⟩) n c] 50) h2
  have hb : Below w.heap.size w (w.alloc (.cells #[.pointer (some ⟨P, 0, none⟩), .slice (some ⟨g, 0, none⟩) n c] 50)) := (Below.refl _ _).alloc (Nat.le_refl _) _
  have HB : Hid _ := hb
  clear hb
  have hlt : ((k : Int) < (o : Int)) := by omega
  go_enter Try.func18, Try.ntmps18
  go_wp2_with fail
  refine (keyed_any P k o _ e1 e2).mono ?_
  rintro e w' ⟨rfl, m, rfl⟩
  have q0 : (0 : Int) ≤ (k : Int) := by omega
  have q1 : (k : Int) ≤ (o : Int) - 16 := by omega
  have q2 : (o : Int) - 16 ≤ (c : Int) := by omega
  have q3 : ¬ c = k := by omega
  have q4 : ((o : Int) - 16).toNat = o - 16 := by omega
  go_wp2_with fail
  go_quiet (fail)
  go_wp2
  go_ret
  exact ⟨rfl, below_drewN (below_drewN HB _) _⟩

set_option maxHeartbeats 400000 in
theorem keyText_no (P k o : Nat) (v : Value) (w : World) (h1 : w.cell? ⟨P, 162, none⟩ = some (.int .i32 k)) (h2 : w.cell? ⟨P, 163, none⟩ = some (.int .i32 o)) (hko : o ≤ k) :
    Calls Try.prog 18 #[.agg #[.pointer (some ⟨P, 0, none⟩), v]] w fun e w' => e = .returned (.slice none 0 0) ∧ Below w.heap.size w w' := by
  have hP : P < w.heap.size := by simpa using World.block_lt_of_cell? _ _ h1
  have hPn : ¬ P = w.heap.size := by omega
  have e1 := Lib.cell?_alloc_some (.cells #[.pointer (some ⟨P, 0, none⟩), v] 50) h1
  have e2 := Lib.cell?_alloc_some (.cells #[.pointer (some ⟨P, 0, none⟩), v] 50) h2
  have hb : Below w.heap.size w (w.alloc (.cells #[.pointer (some ⟨P, 0, none⟩), v] 50)) := (Below.refl _ _).alloc (Nat.le_refl _) _
  have HB : Hid _ := hb
  clear hb
  have hlt : decide ((k : Int) < (o : Int)) = false := by simp; omega
  go_enter Try.func18, Try.ntmps18
  go_wp2_with fail
  refine (keyed_any P k o _ e1 e2).mono ?_
  rintro e w' ⟨rfl, m, rfl⟩
  rw [hlt]
  go_wp2
  go_ret
  exact ⟨rfl, below_drewN HB _⟩

/-- The five counts are laid into a fresh packed: what its cells then hold. -/
theorem packed_cells {Z : Array Value} (w : World) (hs : Z.size = 166) (n k1 k2 k3 k4 : Nat) :
    (w.alloc (.cells (((((Z.setIfInBounds 160 (.int .i32 n)).setIfInBounds 162 (.int .i32 k1)).setIfInBounds 163 (.int .i32 k2)).setIfInBounds 164 (.int .i32 k3)).setIfInBounds 165 (.int .i32 k4)) 48)).cell? ⟨w.heap.size, 162, none⟩ = some (.int .i32 k1) ∧
    (w.alloc (.cells (((((Z.setIfInBounds 160 (.int .i32 n)).setIfInBounds 162 (.int .i32 k1)).setIfInBounds 163 (.int .i32 k2)).setIfInBounds 164 (.int .i32 k3)).setIfInBounds 165 (.int .i32 k4)) 48)).cell? ⟨w.heap.size, 163, none⟩ = some (.int .i32 k2) := by
  constructor
  · rw [World.cell?_alloc_new]
    simp [hs]
  · rw [World.cell?_alloc_new]
    simp [hs]

set_option maxHeartbeats 400000 in
theorem kt_yes (g n c : Nat) (k1 k2 k3 k4 : Nat) (w : World) (hn : n ≤ 100000000) (hko : k1 + 16 < k2) (ho : k2 ≤ n) (hnc : n ≤ c) :
    Calls Try.prog 10 #[.slice (some ⟨g, 0, none⟩) n c, .int .i32 k1, .int .i32 k2, .int .i32 k3, .int .i32 k4] w fun e w' =>
      e = .returned (.slice (some ⟨g, k1, none⟩) (k2 - 16 - k1) (c - k1)) ∧ Below w.heap.size w w' := by
  obtain ⟨Z, hz, hs, z0, z2, z3, z4, z5⟩ := z48
  have HS : Hid _ := hs
  clear hs
  have hn' : IntKind.i32.wrap (n : Int) = n := by simp [IntKind.wrap, IntKind.bits, IntKind.signed]; omega
  go_enter Try.func10, Try.ntmps10
  go_wp2_with fail
  have hc := packed_cells w HS n k1 k2 k3 k4
  refine (keyText_yes _ g n c k1 k2 _ hc.1 hc.2 hko ho hnc (by omega)).mono ?_
  rintro e w' ⟨rfl, hb⟩
  go_wp2
  go_ret
  exact ⟨rfl, ((Below.refl _ _).alloc (Nat.le_refl _) _).trans (hb.mono (by simp))⟩

set_option maxHeartbeats 400000 in
theorem kt_no (g n c : Nat) (k1 k2 k3 k4 : Nat) (w : World) (hn : n ≤ 100000000) (hko : k2 ≤ k1) :
    Calls Try.prog 10 #[.slice (some ⟨g, 0, none⟩) n c, .int .i32 k1, .int .i32 k2, .int .i32 k3, .int .i32 k4] w fun e w' =>
      e = .returned (.slice none 0 0) ∧ Below w.heap.size w w' := by
  obtain ⟨Z, hz, hs, z0, z2, z3, z4, z5⟩ := z48
  have HS : Hid _ := hs
  clear hs
  have hn' : IntKind.i32.wrap (n : Int) = n := by simp [IntKind.wrap, IntKind.bits, IntKind.signed]; omega
  go_enter Try.func10, Try.ntmps10
  go_wp2_with fail
  have hc := packed_cells w HS n k1 k2 k3 k4
  refine (keyText_no _ k1 k2 _ _ hc.1 hc.2 hko).mono ?_
  rintro e w' ⟨rfl, hb⟩
  go_wp2
  go_ret
  exact ⟨rfl, ((Below.refl _ _).alloc (Nat.le_refl _) _).trans (hb.mono (by simp))⟩

end Go.Proofs.Qxb6605874a
