import Derived.Test.Qxb6615469aCols
namespace Go.Proofs.Qxb6615469a
open Go.RowKit
set_option linter.unusedVariables false

theorem Try.info70 : (Try.prog.info? 70).map (fun i => (i.zero, i.size, i.bytes)) = some (some (.agg #[.string ByteArray.empty, .int .u8 0]), 2, 24) := by kernel_rfl

theorem set_other (w : World) (b o o' : Nat) (v : Value) (h : o ≠ o') : (w.setCell ⟨b, o, none⟩ v).cell? ⟨b, o', none⟩ = w.cell? ⟨b, o', none⟩ :=
  World.cell?_setCell_other _ _ _ _ (fun e => h (by injection e))
theorem set_same (w : World) (b o : Nat) (v u : Value) (h : w.cell? ⟨b, o, none⟩ = some u) : (w.setCell ⟨b, o, none⟩ v).cell? ⟨b, o, none⟩ = some v :=
  World.cell?_setCell_same _ _ _ h

/-- What one store of a column does to the row. -/
theorem cols_step {wr : World} {B k n : Nat} {ss : List ByteArray} {ts : List Int} (hk : k < n)
    (hA : ∀ i, i < k → wr.cell? ⟨B, i * 2, none⟩ = some (.string (ss.getD i ByteArray.empty)) ∧ wr.cell? ⟨B, i * 2 + 1, none⟩ = some (.int .u8 (ts.getD i 0)))
    (hR : ∀ j, j < n * 2 → (∃ v, wr.cell? ⟨B, j, none⟩ = some v) ∧ wr.frozen? ⟨B, j, none⟩ = false) :
    (∀ i, i < k + 1 → ((wr.setCell ⟨B, k * 2, none⟩ (.string (ss.getD k ByteArray.empty))).setCell ⟨B, k * 2 + 1, none⟩ (.int .u8 (ts.getD k 0))).cell? ⟨B, i * 2, none⟩ = some (.string (ss.getD i ByteArray.empty)) ∧
      ((wr.setCell ⟨B, k * 2, none⟩ (.string (ss.getD k ByteArray.empty))).setCell ⟨B, k * 2 + 1, none⟩ (.int .u8 (ts.getD k 0))).cell? ⟨B, i * 2 + 1, none⟩ = some (.int .u8 (ts.getD i 0))) ∧
    (∀ j, j < n * 2 → (∃ v, ((wr.setCell ⟨B, k * 2, none⟩ (.string (ss.getD k ByteArray.empty))).setCell ⟨B, k * 2 + 1, none⟩ (.int .u8 (ts.getD k 0))).cell? ⟨B, j, none⟩ = some v) ∧
      ((wr.setCell ⟨B, k * 2, none⟩ (.string (ss.getD k ByteArray.empty))).setCell ⟨B, k * 2 + 1, none⟩ (.int .u8 (ts.getD k 0))).frozen? ⟨B, j, none⟩ = false) := by
  obtain ⟨⟨y0, r0⟩, -⟩ := hR (k * 2) (by omega)
  obtain ⟨⟨y1, r1⟩, -⟩ := hR (k * 2 + 1) (by omega)
  refine ⟨fun i hi => ?_, fun j hj => ?_⟩
  · rcases Nat.lt_or_ge i k with h | h
    · rw [set_other _ _ _ _ _ (by omega), set_other _ _ _ _ _ (by omega), set_other _ _ _ _ _ (by omega), set_other _ _ _ _ _ (by omega)]
      exact hA i h
    · obtain rfl : i = k := by omega
      refine ⟨?_, ?_⟩
      · rw [set_other _ _ _ _ _ (by omega)]
        exact set_same _ _ _ _ _ r0
      · have : (wr.setCell ⟨B, i * 2, none⟩ (.string (ss.getD i ByteArray.empty))).cell? ⟨B, i * 2 + 1, none⟩ = some y1 := by
          rw [set_other _ _ _ _ _ (by omega)]; exact r1
        exact set_same _ _ _ _ _ this
  · refine ⟨?_, by simpa using (hR j hj).2⟩
    obtain ⟨⟨v, hv⟩, -⟩ := hR j hj
    obtain ⟨v', hv'⟩ := cell?_setCell_some (p := ⟨B, k * 2, none⟩) (x := .string (ss.getD k ByteArray.empty)) hv
    exact cell?_setCell_some (p := ⟨B, k * 2 + 1, none⟩) (x := .int .u8 (ts.getD k 0)) hv'

set_option maxHeartbeats 1000000 in
theorem columns_any (a a2 : Option Addr) (n c c2 : Nat) (ss : List ByteArray) (ts : List Int) (hl : ss.length = n) (hl2 : ts.length = n) (hm : n ≤ 65536) (w : World) (h : Strs w a ss) (h2 : Bys w a2 ts) :
    Calls Try.prog 31 #[.slice a n c, .slice a2 n c2] w fun e w' => e = .returned (.slice (some ⟨w.heap.size, 0, none⟩) n n) ∧ Cols w' (some ⟨w.heap.size, 0, none⟩) (ss.zip ts) ∧ Below w.heap.size w w' := by
  obtain ⟨i0, hi, hz0, hz1, hz2⟩ := info_parts Try.info70
  have HL : Hid (ss.length = n) := hl
  have HL2 : Hid (ts.length = n) := hl2
  have H : Hid (Strs w a ss) := h
  have H2 : Hid (Bys w a2 ts) := h2
  have hby : i0.bytes * n ≤ 281474976710656 := by rw [hz2]; omega
  have hml : n ≤ maxLen := by unfold maxLen; omega
  obtain ⟨B, hBB⟩ : ∃ B, B = w.heap.size := ⟨_, rfl⟩
  have HBB : Hid (B = w.heap.size) := hBB
  have hB : B ≤ w.heap.size := by omega
  rw [← hBB]
  clear hl hl2 h h2 hz2 hBB
  go_enter Try.func31, Try.ntmps31
  go_wp2_with (at_make; refine wpList_make_full _ rfl _ _ 53 rfl B 70 i0 (.agg #[.string ByteArray.empty, .int .u8 0]) 2 Try.underlying53 hi hz0 hz1 _ _ _ _ n rfl rfl rfl rfl hby hml hB ?_)
  intro w1 hown hgrow
  rw [← HBB.out] at hown ⊢
  have hbel : Below B w w1 := (Below.refl _ _).grown hgrow hB (by simp)
  have hR : Hid (∀ j, j < n * 2 → (∃ v, w1.cell? ⟨B, j, none⟩ = some v) ∧ w1.frozen? ⟨B, j, none⟩ = false) := by
    intro j hj
    refine ⟨?_, hown.frozenAt j⟩
    have hx := hown.1
    rw [hown.cellAt j hj]
    exact ⟨_, List.getElem?_eq_getElem (by omega)⟩
  have HBE : Hid (Below B w w1) := hbel
  clear hgrow hi hz0 hz1 hby hown hbel
  go_wp2
  go_loopw [6] (fun i wr => ∃ k : Nat, k ≤ n ∧ i = .int .i64 k ∧ Hid (∀ i, i < k → wr.cell? ⟨B, i * 2, none⟩ = some (.string (ss.getD i ByteArray.empty)) ∧ wr.cell? ⟨B, i * 2 + 1, none⟩ = some (.int .u8 (ts.getD i 0))) ∧
      Hid (∀ j, j < n * 2 → (∃ v, wr.cell? ⟨B, j, none⟩ = some v) ∧ wr.frozen? ⟨B, j, none⟩ = false) ∧ Hid (Below B w wr)) (fun i _ => n - (intOf i).toNat)
  case atStart => exact ⟨0, Nat.zero_le _, rfl, fun i hi => by omega, hR, HBE⟩
  case round =>
    clear hR HBE
    obtain ⟨k, hk, rfl, HA, HR, HBE⟩ := hrel
    by_cases hlt : k < n
    · obtain ⟨b, off, rfl, hc⟩ := H.out (by have := HL.out; omega)
      obtain ⟨b2, off2, rfl, hc2⟩ := H2.out (by have := HL2.out; omega)
      obtain ⟨s, hs⟩ : ∃ s, s = ss.getD k ByteArray.empty := ⟨_, rfl⟩
      obtain ⟨t, ht⟩ : ∃ t, t = ts.getD k 0 := ⟨_, rfl⟩
      have hkl : k < ss.length := by have := HL.out; omega
      have hkl2 : k < ts.length := by have := HL2.out; omega
      have x1 := hc k hkl
      have x2 := hc2 k hkl2
      have lt1 : b < B := by rw [HBB.out]; exact World.block_lt_of_cell? _ _ x1
      have lt2 : b2 < B := by rw [HBB.out]; exact World.block_lt_of_cell? _ _ x2
      have g1 : wr.cell? ⟨b, off + k, none⟩ = some (.string s) := by rw [HBE.out.cell lt1, hs]; exact x1
      have g2 : wr.cell? ⟨b2, off2 + k, none⟩ = some (.int .u8 t) := by rw [HBE.out.cell lt2, ht]; exact x2
      obtain ⟨⟨y0, r0⟩, z0⟩ := HR.out (k * 2) (by omega)
      obtain ⟨⟨y1, r1⟩, z1⟩ := HR.out (k * 2 + 1) (by omega)
      have HSS : Hid (s = ss.getD k ByteArray.empty) := hs
      have HTT : Hid (t = ts.getD k 0) := ht
      have n1 : ¬ b = B := by omega
      have n2 : ¬ b2 = B := by omega
      have i0 : (0 : Int) ≤ (k : Int) := by omega
      have i1 : (k : Int) < (n : Int) := by omega
      clear hs ht hc hc2 x1 x2
      have ST := cols_step hlt HA.out HR.out
      rw [← HSS.out, ← HTT.out] at ST
      have HST : Hid _ := ST
      have HB2 : Hid (Below B w ((wr.setCell ⟨B, k * 2, none⟩ (.string s)).setCell ⟨B, k * 2 + 1, none⟩ (.int .u8 t))) := (HBE.out.setCell (Nat.le_refl _) _).setCell (Nat.le_refl _) _
      clear ST
      go_wp2
      go_region
      go_wp2
      go_roundw
      case rel => exact ⟨k + 1, by omega, by go_num, HST.out.1, HST.out.2, HB2.out.drew⟩
      case measure => simp [intOf]; omega
    · obtain rfl : k = n := by omega
      have HCC : Hid (Cols wr (some ⟨B, 0, none⟩) (ss.zip ts)) := by
        intro hp
        refine ⟨B, 0, rfl, fun i hi => ?_⟩
        have hik : i < k := by
          have := HL.out
          simp at hi
          omega
        have h1 : i < ss.length := by have := HL.out; omega
        have h2 : i < ts.length := by have := HL2.out; omega
        have := HA.out i hik
        rw [Nat.zero_add]
        simpa [h1, h2] using this
      clear HA HR
      go_wp2
      go_ret
      exact ⟨rfl, HCC.out, HBE.out⟩
end Go.Proofs.Qxb6615469a
