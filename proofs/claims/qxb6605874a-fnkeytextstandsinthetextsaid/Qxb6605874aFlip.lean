import Derived.Test.Qxb6605874aWalkThree
import Derived.OpenShut
namespace Go.Proofs.Qxb6605874a
open Go.RowKit
set_option linter.unusedVariables false

/-- What has been written behind k rounds. -/
def half (l : List Int) (n k : Nat) : List Int := l.take k ++ List.replicate (n - k) 0

theorem half_zero (l : List Int) (n : Nat) : half l n 0 = List.replicate n 0 := by simp [half]
theorem half_all (l : List Int) (n : Nat) (h : l.length = n) : half l n n = l := by simp [half, ← h]
theorem half_succ (l : List Int) (n k : Nat) (h : l.length = n) (hk : k < n) : (half l n k).set k (l.getD k 0) = half l n (k + 1) := by
  unfold half
  apply List.ext_getElem?
  intro i
  simp only [List.getElem?_set, List.length_append, List.length_take, List.length_replicate, List.getElem?_append, List.getElem?_take, List.getElem?_replicate, List.getD_eq_getElem?_getD]
  have e1 : min k l.length = k := by omega
  have e2 : min (k + 1) l.length = k + 1 := by omega
  rw [e1, e2]
  by_cases h1 : i < k
  · simp [h1, show ¬ k = i by omega, show i < k + 1 by omega]
  · by_cases h2 : k = i
    · subst h2
      simp [show k < k + (n - k) by omega, List.getElem?_eq_getElem (show k < l.length by omega)]
    · simp [h1, h2, show ¬ i < k + 1 by omega]
      by_cases h3 : i < n
      · simp [show i - k < n - k by omega, show i - (k + 1) < n - (k + 1) by omega]
      · simp [show ¬ i - k < n - k by omega, show ¬ i - (k + 1) < n - (k + 1) by omega]

theorem map_set_u8 (l : List Int) (k : Nat) (x : Int) : (l.map (Value.int .u8)).set k (.int .u8 x) = (l.set k x).map (Value.int .u8) := by
  rw [List.map_set]

/-- A byte with all its bits turned, as Go's ^ gives it. -/
def flp (x : Int) : Int := bits BinOp.xor IntKind.u8 (if IntKind.u8.signed = true then -1 else IntKind.u8.max) x
theorem flp_range (x : Int) : 0 ≤ flp x ∧ flp x ≤ 255 := bounds_u8 (wf_bits _ _ _ _)
def flipped (s : ByteArray) : ByteArray := strOfNums ((nums s).map flp)
theorem nums_strOf (l : List Int) (h : ∀ x ∈ l, 0 ≤ x ∧ x ≤ 255) : nums (strOfNums l) = l := by
  have : nums (strOfNums l) = l.map fun n => ((UInt8.ofNat n.toNat).toNat : Int) := by
    simp [nums, strOfNums, Function.comp_def]
  rw [this]
  conv => rhs; rw [← List.map_id l]
  apply List.map_congr_left
  intro x hx
  obtain ⟨h1, h2⟩ := h x hx
  simp
  omega
theorem nums_flipped (s : ByteArray) : nums (flipped s) = (nums s).map flp := nums_strOf _ (fun x hx => by
  simp only [List.mem_map] at hx
  obtain ⟨y, -, rfl⟩ := hx
  exact flp_range y)
theorem flipped_size (s : ByteArray) : (flipped s).size = s.size := by
  have := congrArg List.length (nums_flipped s)
  simpa [nums_length] using this

set_option maxHeartbeats 1000000 in
theorem flip_any (s : ByteArray) (n : Nat) (l : List Int) (hs : s.size = n) (hl0 : l = (nums s).map flp) (hm : n ≤ 1048576) (w : World) :
    Calls Try.prog 13 #[.string s] w fun e w' => e = .returned (.string (strOfNums l)) ∧ Below w.heap.size w w' := by
  obtain ⟨i0, hi, hz0, hz1, hz2⟩ := info_parts Try.info5
  have hl : l.length = n := by rw [hl0, List.length_map, nums_length]; exact hs
  have HL0 : Hid _ := hl0
  clear hl0
  have Hl : Hid (l.length = n) := hl
  have Hhi : Hid (i0.bytes = 1) := hz2
  have hby : i0.bytes * n ≤ 281474976710656 := by rw [hz2]; omega
  have hml : n ≤ maxLen := by unfold maxLen; omega
  clear hl hz2
  go_enter Try.func13, Try.ntmps13
  go_wp2_with (at_make; refine wpList_make_full _ rfl _ _ 30 rfl w.heap.size 5 i0 (.int .u8 0) 1 Try.underlying30 hi hz0 hz1 _ _ _ _ n rfl rfl rfl rfl hby hml (Nat.le_refl _) ?_)
  intro w1 hown hgrow
  have hbel : Below w.heap.size w w1 := (Below.refl _ _).grown hgrow (Nat.le_refl _) (by simp)
  have e0 : (madeCells #[Value.int .u8 0] n).toList = (half l n 0).map (Value.int .u8) := by
    rw [half_zero]; simp [toList_madeCells_one]
  rw [e0] at hown
  clear hgrow hi hz0 hz1 hby
  go_wp2
  go_loopw [4] (fun i wr => ∃ k : Nat, k ≤ n ∧ i = .int .i64 k ∧ wr.ownsRow w.heap.size 5 1 (.slice (some ⟨w.heap.size, 0, none⟩) n n) n ((half l n k).map (Value.int .u8)) ∧ Below w.heap.size w wr) (fun i _ => n - (intOf i).toNat)
  case atStart => exact ⟨0, Nat.zero_le _, rfl, hown, hbel⟩
  case round =>
    clear hown hbel e0
    obtain ⟨k, hk, rfl, hown, hbel⟩ := hrel
    by_cases hlt : k < n
    · have hks : k < s.size := by omega
      obtain ⟨y, hy⟩ : ∃ y, y = l.getD k 0 := ⟨_, rfl⟩
      have hlen : (half l n k).length = n := by have := Hl.out; simp [half]; omega
      have hkk : k < (half l n k).length := by omega
      have g2 : wr.cell? ⟨w.heap.size, k, none⟩ = some (.int .u8 ((half l n k)[k])) := by rw [hown.cellAt k (by omega)]; simp [hkk]
      have g3 := hown.frozenAt k
      have R := (hown.stored k (.int .u8 y)).1
      rw [map_set_u8, hy, half_succ l n k Hl.out hlt, ← hy] at R
      have RB := hbel.setCell (p := ⟨w.heap.size, k, none⟩) (Nat.le_refl _) (.int .u8 y)
      have HR : Hid (_) := R
      have HB : Hid (_) := RB
      have hfy : bits BinOp.xor IntKind.u8 (if IntKind.u8.signed = true then -1 else IntKind.u8.max) ((s[k]'hks).toNat : Int) = y := by
        show flp _ = y
        rw [hy, HL0.out, nums_at s k hks]
        have hkn : k < (nums s).length := by rw [nums_length]; exact hks
        simp [List.getD_eq_getElem?_getD, hkn]
      have HFY : Hid _ := hfy
      clear hfy hy
      have i1 : (0 : Int) ≤ (k : Int) := by omega
      have i2 : (k : Int) < (n : Int) := by omega
      clear R RB hown hbel
      go_wp2
      rw [HFY.out]
      go_roundw
      case rel => exact ⟨k + 1, by omega, by go_num, HR.out, HB.out⟩
      case measure => simp [intOf]; omega
    · obtain rfl : k = n := by omega
      rw [half_all l k Hl.out] at hown
      have hcv := run_convert_bytes_arg (P := Try.prog) wr 30 5 Try.underlying30 Try.underlying5 w.heap.size 0 k k l Hl.out (fun i hi => by
        rw [Nat.zero_add, hown.cellAt i (by omega)]
        have hil : i < l.length := by have := Hl.out; omega
        simp [List.getD_eq_getElem?_getD, hil]) 9 Try.underlying9
      have HB : Hid _ := hbel
      clear hown hbel
      go_wp2
      go_ret
      exact ⟨rfl, HB.out⟩
end Go.Proofs.Qxb6605874a
