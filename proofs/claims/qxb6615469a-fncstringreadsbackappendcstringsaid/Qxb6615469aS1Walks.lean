import Derived.Test.Qxb6615469aCore
import Derived.OpenShut
namespace Go.Proofs.Qxb6615469a
open Go.RowKit
set_option linter.unusedVariables false

theorem guard10_big (a : Option Addr) (n c : Nat) (f : Bool) (w : World) (h : 1048576 < n) : Calls Try.prog 10 #[.slice a n c, .bool f] w fun e w' => e = .returned (.bool false) ∧ w = w' := by
  go_enter Try.func10, Try.ntmps10
  go_wp2
  go_ret
  exact ⟨rfl, rfl⟩

theorem guard10_small (a : Option Addr) (n c : Nat) (f : Bool) (w : World) (h : n ≤ 1048576) : Calls Try.prog 10 #[.slice a n c, .bool f] w fun e w' => e = .returned (.bool true) ∧ w = w' := by
  go_enter Try.func10, Try.ntmps10
  go_wp2
  go_ret
  exact ⟨rfl, rfl⟩

theorem walk_big (a : Option Addr) (n c : Nat) (f : Bool) (w : World) (h : 1048576 < n) : Calls Try.prog 3 #[.slice a n c, .bool f] w fun e w' => e = .returned (.bool true) ∧ Below w.heap.size w w' := by
  go_enter Try.func3, Try.ntmps3
  go_wp2_with (go_at_call 10; refine (guard10_big _ _ _ _ _ h).mono ?_; rintro e w' ⟨rfl, rfl⟩)
  go_ret
  exact ⟨rfl, Below.refl _ _⟩

set_option maxHeartbeats 1000000 in
theorem walk_failed (a : Option Addr) (n c : Nat) (l : List Int) (hl : l.length = n) (hm : n ≤ 1048576) (hn : a = none → n = 0) (w : World) (h1 : Bys w a l) :
    Calls Try.prog 3 #[.slice a n c, .bool true] w fun e w' => e = .returned (.bool true) ∧ Below w.heap.size w w' := by
  have Hl := Hid.out (p := l.length = n) hl
  have HL : Hid (l.length = n) := hl
  have HN : Hid (a = none → n = 0) := hn
  have H1 : Hid (Bys w a l) := h1
  clear hl hn h1 Hl
  go_enter Try.func3, Try.ntmps3
  go_wp2_with (go_at_call 10; refine (guard10_small _ _ _ _ _ hm).mono ?_; rintro e w' ⟨rfl, rfl⟩)
  refine (clone_any a n c l HL.out hm HN.out _ H1.out).mono ?_
  rintro e w1 ⟨a1, rfl, hi1, hB1, hb1, hn1, hx1⟩
  have HI1 : Hid (a1.isNone = a.isNone) := hi1
  have HB1 : Hid (Bys w1 a1 l) := hB1
  have Hb1 : Hid (Below w.heap.size w w1) := hb1
  have HN1 : Hid (a1 = none → n = 0) := hn1
  clear hi1 hB1 hb1 hn1 hx1
  go_wp2_with fail
  refine (clone_any a1 n n l HL.out hm HN1.out _ HB1.out).mono ?_
  rintro e w2 ⟨a2, rfl, hi2, hB2, hb2, hn2, hx2⟩
  have HI2 : Hid (a2.isNone = a1.isNone) := hi2
  have HB2 : Hid (Bys w2 a2 l) := hB2
  have HB1' : Hid (Bys w2 a1 l) := Bys.below HB1.out hb2
  have Hb2 : Hid (Below w1.heap.size w1 w2) := hb2
  clear hi2 hB2 hb2 hn2 hx2
  go_wp2_with fail
  refine (newFailed_any a1 n n _).mono ?_
  rintro e w3 ⟨rfl, o, rfl⟩
  have hcell0 : ((w2.alloc o).alloc (.cells #[.slice a1 n n, .iface 74 (.pointer (some ⟨w2.heap.size, 0, none⟩))] 62)).cell? ⟨w2.heap.size + 1, 0, none⟩ = some (.slice a1 n n) := by
    rw [cell_of_row _ (w2.heap.size + 1) 0 _ 62 (0, 0) (heap_alloc2_new w2 o _)]; rfl
  have hcell1 : ((w2.alloc o).alloc (.cells #[.slice a1 n n, .iface 74 (.pointer (some ⟨w2.heap.size, 0, none⟩))] 62)).cell? ⟨w2.heap.size + 1, 1, none⟩ = some (.iface 74 (.pointer (some ⟨w2.heap.size, 0, none⟩))) := by
    rw [cell_of_row _ (w2.heap.size + 1) 1 _ 62 (0, 0) (heap_alloc2_new w2 o _)]; rfl
  have hb3 : Below w2.heap.size w2 ((w2.alloc o).alloc (.cells #[.slice a1 n n, .iface 74 (.pointer (some ⟨w2.heap.size, 0, none⟩))] 62)) :=
    ((Below.refl _ _).alloc (Nat.le_refl _) _).alloc (by simp) _
  generalize (w2.alloc o).alloc (.cells #[.slice a1 n n, .iface 74 (.pointer (some ⟨w2.heap.size, 0, none⟩))] 62) = w3 at hcell0 hcell1 hb3 ⊢
  have Hb3 : Hid (Below w2.heap.size w2 w3) := hb3
  clear hb3
  have hq1 := fun w => Lib.run_eql_slice_nil (P := Try.prog) w 22 5 a1 n n 0 0 Try.underlying22
  have hq2 := fun w => Lib.run_eql_slice_nil (P := Try.prog) w 22 5 a2 n n 0 0 Try.underlying22
  rw [HI2.out] at hq2
  go_wp2_with (first
    | (go_at_call 36; refine (cstr_failed _ _ _ _ hcell1).mono ?_; rintro e w' ⟨rfl, rfl⟩)
    | (go_at_call 15; refine (failed_yes _ _ _ _ hcell1).mono ?_; rintro e w' ⟨rfl, rfl⟩)
    | (go_at_call 14; refine (rest_any _ _ _ hcell0).mono ?_; rintro e w' ⟨rfl, rfl⟩)
    | (go_at_call 13; go_in))
  refine (beq_same a1 a2 n n n l HL.out (by unfold maxLen; omega) _ (Bys.below HB1'.out Hb3.out) (Bys.below HB2.out Hb3.out)).mono ?_
  rintro e w4 ⟨rfl, k, rfl⟩
  go_wp2
  go_ret
  refine ⟨rfl, below_drewN ?_ k⟩
  have s1 := Hb1.out.size
  have s2 := Hb2.out.size
  exact (Hb1.out.trans (Hb2.out.mono s1)).trans (Hb3.out.mono (Nat.le_trans s1 s2))

theorem split0 : ∀ l : List Int, (∀ x ∈ l, (x == 0) = false) ∨ ∃ l1 l2, l = l1 ++ 0 :: l2 ∧ ∀ x ∈ l1, (x == 0) = false
  | [] => .inl (by simp)
  | y :: r => by
    by_cases h : y = 0
    · exact .inr ⟨[], r, by simp [h], by simp⟩
    · rcases split0 r with h1 | ⟨l1, l2, h1, h2⟩
      · left
        intro x hx
        rcases List.mem_cons.1 hx with e | e
        · rw [e]; simpa using h
        · exact h1 x e
      · right
        refine ⟨y :: l1, l2, by simp [h1], ?_⟩
        intro x hx
        rcases List.mem_cons.1 hx with e | e
        · rw [e]; simpa using h
        · exact h2 x e

theorem str_at (l : List Int) (k : Nat) (hk : k < l.length) (hr : ∀ x ∈ l, 0 ≤ x ∧ x ≤ 255) :
    ∃ h : k < (strOfNums l).size, ((((strOfNums l)[k]'h).toNat : Nat) : Int) = l.getD k 0 := by
  have hs : k < (strOfNums l).size := by rw [strOfNums_size]; exact hk
  refine ⟨hs, ?_⟩
  have e : (strOfNums l)[k]'hs = UInt8.ofNat (l[k]).toNat := by
    show (strOfNums l).data[k] = _
    simp [strOfNums]
  have hb := hr l[k] (List.getElem_mem hk)
  have e2 : l.getD k 0 = l[k] := by simp [hk]
  rw [e, e2]
  simp only [UInt8.toNat_ofNat']
  omega

set_option maxHeartbeats 1000000 in
theorem walk_miss (a : Option Addr) (n c : Nat) (l : List Int) (hl : l.length = n) (hm : n ≤ 1048576) (hn : a = none → n = 0) (hr : ∀ x ∈ l, 0 ≤ x ∧ x ≤ 255) (h0 : ∀ x ∈ l, (x == 0) = false) (w : World) (h1 : Bys w a l) :
    Calls Try.prog 3 #[.slice a n c, .bool false] w fun e w' => e = .returned (.bool true) ∧ Below w.heap.size w w' := by
  have HL : Hid (l.length = n) := hl
  have HN : Hid (a = none → n = 0) := hn
  have H1 : Hid (Bys w a l) := h1
  have HR : Hid (∀ x ∈ l, 0 ≤ x ∧ x ≤ 255) := hr
  have H0 : Hid (∀ x ∈ l, (x == 0) = false) := h0
  clear hl hn h1 hr h0
  go_enter Try.func3, Try.ntmps3
  go_wp2_with (go_at_call 10; refine (guard10_small _ _ _ _ _ hm).mono ?_; rintro e w' ⟨rfl, rfl⟩)
  refine (clone_any a n c l HL.out hm HN.out _ H1.out).mono ?_
  rintro e w1 ⟨a1, rfl, hi1, hB1, hb1, hn1, hx1⟩
  have HB1 : Hid (Bys w1 a1 l) := hB1
  have Hb1 : Hid (Below w.heap.size w w1) := hb1
  have HN1 : Hid (a1 = none → n = 0) := hn1
  clear hi1 hB1 hb1 hn1 hx1
  go_wp2_with fail
  refine (clone_any a1 n n l HL.out hm HN1.out _ HB1.out).mono ?_
  rintro e w2 ⟨a2, rfl, hi2, hB2, hb2, hn2, hx2⟩
  have HB2 : Hid (Bys w2 a2 l) := hB2
  have HB1' : Hid (Bys w2 a1 l) := Bys.below HB1.out hb2
  have Hb2 : Hid (Below w1.heap.size w1 w2) := hb2
  clear hi2 hB2 hb2 hn2 hx2
  go_wp2_with fail
  refine (newFields_any a1 n n _).mono ?_
  rintro e w3 ⟨rfl, rfl⟩
  have hcell0 : (w2.alloc (.cells #[.slice a1 n n, .nilIface] 62)).cell? ⟨w2.heap.size, 0, none⟩ = some (.slice a1 n n) := by
    rw [cell_of_row _ w2.heap.size 0 _ 62 (0, 0) (heap_alloc_new w2 _)]; rfl
  have hcell1 : (w2.alloc (.cells #[.slice a1 n n, .nilIface] 62)).cell? ⟨w2.heap.size, 1, none⟩ = some .nilIface := by
    rw [cell_of_row _ w2.heap.size 1 _ 62 (0, 0) (heap_alloc_new w2 _)]; rfl
  have hfr : (w2.alloc (.cells #[.slice a1 n n, .nilIface] 62)).frozen? ⟨w2.heap.size, 0, none⟩ = false := frozen_of_row _ _ _ _ _ (heap_alloc_new w2 _)
  have hb3 : Below w2.heap.size w2 (w2.alloc (.cells #[.slice a1 n n, .nilIface] 62)) := (Below.refl _ _).alloc (Nat.le_refl _) _
  generalize w2.alloc (.cells #[.slice a1 n n, .nilIface] 62) = w3 at hcell0 hcell1 hb3 hfr ⊢
  have Hb3 : Hid (Below w2.heap.size w2 w3) := hb3
  clear hb3
  go_wp2_with (go_at_call 13; go_in)
  refine (cstr_miss _ a1 n n l HL.out (by unfold maxLen; omega) H0.out _ hcell0 hcell1 hfr (Bys.below HB1'.out Hb3.out)).mono ?_
  rintro e w4 ⟨rfl, rfl⟩
  have d0 : (w3.setCell ⟨w2.heap.size, 0, none⟩ (.slice none 0 0)).cell? ⟨w2.heap.size, 0, none⟩ = some (.slice none 0 0) := by go_simp
  have d1 : (w3.setCell ⟨w2.heap.size, 0, none⟩ (.slice none 0 0)).cell? ⟨w2.heap.size, 1, none⟩ = some .nilIface := by go_simp
  have HBq : Hid (Bys (w3.setCell ⟨w2.heap.size, 0, none⟩ (.slice none 0 0)) a2 l) := Bys.below HB2.out (Hb3.out.setCell (Nat.le_refl _) _)
  have Hb4 : Hid (Below w2.heap.size w2 (w3.setCell ⟨w2.heap.size, 0, none⟩ (.slice none 0 0))) := Hb3.out.setCell (Nat.le_refl _) _
  clear hcell0 hcell1 hfr
  generalize w3.setCell ⟨w2.heap.size, 0, none⟩ (.slice none 0 0) = w4 at d0 d1 HBq Hb4 ⊢
  have hst : (strOfNums l).size = n := by rw [strOfNums_size]; exact HL.out
  obtain ⟨s, hs⟩ : ∃ s, s = strOfNums l := ⟨_, rfl⟩
  rw [← hs] at hst ⊢
  have HS : Hid (s = strOfNums l) := hs
  clear hs
  have hq1 := fun w => Lib.run_eql_slice_nil (P := Try.prog) w 22 5 none 0 0 0 0 Try.underlying22
  go_wp2_with (first
    | (go_at_call 15; refine (failed_no _ _ d1).mono ?_; rintro e w' ⟨rfl, rfl⟩)
    | (go_at_call 14; refine (rest_any _ _ _ d0).mono ?_; rintro e w' ⟨rfl, rfl⟩))
  clear d0 d1 hq1
  have hq1 := fun w => Lib.run_eql_slice_nil (P := Try.prog) w 22 5 none 0 0 0 0 Try.underlying22
  go_loopw [13] (fun i wr => ∃ k m : Nat, k ≤ n ∧ i = .int .i64 k ∧ wr = w4.drewN m) (fun i _ => n - (intOf i).toNat)
  case atStart => exact ⟨0, 0, Nat.zero_le _, rfl, rfl⟩
  case round =>
    obtain ⟨k, m, hk, rfl, rfl⟩ := hrel
    by_cases hlt : k < n
    · obtain ⟨b, off, rfl, hc⟩ := HBq.out (by have := HL.out; omega)
      obtain ⟨y, hy⟩ : ∃ y, y = l.getD k 0 := ⟨_, rfl⟩
      have hkl : k < l.length := by have := HL.out; omega
      have hy0 : (y == 0) = false := H0.out y (by rw [hy]; simp [hkl])
      have g1 : w4.cell? ⟨b, off + k, none⟩ = some (.int .u8 y) := by rw [hy]; exact hc k hkl
      obtain ⟨hks, hsk⟩ : ∃ h : k < s.size, (((s[k]'h).toNat : Nat) : Int) = y := by
        have := HS.out
        subst this
        rw [hy]
        exact str_at l k hkl HR.out
      have i1 : (0 : Int) ≤ (k : Int) := by omega
      have i2 : (k : Int) < (n : Int) := by omega
      have i3 : (k : Int) < (s.size : Int) := by omega
      have hne : (y != y) = false := by simp
      clear hc hy hq1
      go_wp2
      go_quiet (fail)
      go_wp2
      go_roundw
      case rel => exact ⟨k + 1, _, by omega, by go_num, rfl⟩
      case measure => simp [intOf]; omega
    · go_wp2
      go_ret
      refine ⟨rfl, below_drewN ?_ m⟩
      have s1 := Hb1.out.size
      have s2 := Hb2.out.size
      exact (Hb1.out.trans (Hb2.out.mono s1)).trans (Hb4.out.mono (Nat.le_trans s1 s2))

set_option maxHeartbeats 1000000 in
theorem walk_hit (a : Option Addr) (n c : Nat) (l1 l2 : List Int) (hl : (l1 ++ 0 :: l2).length = n) (hm : n ≤ 1048576) (hn : a = none → n = 0) (hr : ∀ x ∈ l1, 0 ≤ x ∧ x ≤ 255) (h0 : ∀ x ∈ l1, (x == 0) = false) (w : World) (h1 : Bys w a (l1 ++ 0 :: l2)) :
    Calls Try.prog 3 #[.slice a n c, .bool false] w fun e w' => e = .returned (.bool true) ∧ Below w.heap.size w w' := by
  obtain ⟨l, hL⟩ : ∃ l, l = l1 ++ 0 :: l2 := ⟨_, rfl⟩
  have HE : Hid (l = l1 ++ 0 :: l2) := hL
  rw [← hL] at hl h1
  have hlp : 0 < l.length := by rw [hL]; simp; omega
  obtain ⟨j, hj⟩ : ∃ j, j = l1.length := ⟨_, rfl⟩
  have hjn : j + 1 + l2.length = n := by rw [← hl, hL, hj]; simp; omega
  have HJN : Hid (j + 1 + l2.length = n) := hjn
  have hjn' : j < n := by omega
  have HJ : Hid (j = l1.length) := hj
  have HL : Hid (l.length = n) := hl
  have HN : Hid (a = none → n = 0) := hn
  have H1 : Hid (Bys w a l) := h1
  have HR : Hid (∀ x ∈ l1, 0 ≤ x ∧ x ≤ 255) := hr
  have H0 : Hid (∀ x ∈ l1, (x == 0) = false) := h0
  clear hl hn h1 hr h0 hL hj hjn
  go_enter Try.func3, Try.ntmps3
  go_wp2_with (go_at_call 10; refine (guard10_small _ _ _ _ _ hm).mono ?_; rintro e w' ⟨rfl, rfl⟩)
  refine (clone_any a n c l HL.out hm HN.out _ H1.out).mono ?_
  rintro e w1 ⟨a1, rfl, hi1, hB1, hb1, hn1, hx1⟩
  have HB1 : Hid (Bys w1 a1 l) := hB1
  have Hb1 : Hid (Below w.heap.size w w1) := hb1
  have HN1 : Hid (a1 = none → n = 0) := hn1
  clear hi1 hB1 hb1 hn1 hx1
  go_wp2_with fail
  refine (clone_any a1 n n l HL.out hm HN1.out _ HB1.out).mono ?_
  rintro e w2 ⟨a2, rfl, hi2, hB2, hb2, hn2, hx2⟩
  obtain ⟨b2, o2, rfl, hc2⟩ := hB2 hlp
  have HB2 : Hid (Bys w2 (some ⟨b2, o2, none⟩) l) := hB2
  have HB1' : Hid (Bys w2 a1 l) := Bys.below HB1.out hb2
  obtain ⟨b1, o1, rfl, hc1⟩ := HB1'.out hlp
  have Hb2 : Hid (Below w1.heap.size w1 w2) := hb2
  have hb1lt : b1 < w2.heap.size := by simpa using Bys.lt HB1'.out hlp
  clear hi2 hB2 hb2 hn2 hx2 hc1 hc2
  go_wp2_with fail
  refine (newFields_any (some ⟨b1, o1, none⟩) n n _).mono ?_
  rintro e w3 ⟨rfl, rfl⟩
  have hcell0 : (w2.alloc (.cells #[.slice (some ⟨b1, o1, none⟩) n n, .nilIface] 62)).cell? ⟨w2.heap.size, 0, none⟩ = some (.slice (some ⟨b1, o1, none⟩) n n) := by
    rw [cell_of_row _ w2.heap.size 0 _ 62 (0, 0) (heap_alloc_new w2 _)]; rfl
  have hcell1 : (w2.alloc (.cells #[.slice (some ⟨b1, o1, none⟩) n n, .nilIface] 62)).cell? ⟨w2.heap.size, 1, none⟩ = some .nilIface := by
    rw [cell_of_row _ w2.heap.size 1 _ 62 (0, 0) (heap_alloc_new w2 _)]; rfl
  have hfr : (w2.alloc (.cells #[.slice (some ⟨b1, o1, none⟩) n n, .nilIface] 62)).frozen? ⟨w2.heap.size, 0, none⟩ = false := frozen_of_row _ _ _ _ _ (heap_alloc_new w2 _)
  have hb3 : Below w2.heap.size w2 (w2.alloc (.cells #[.slice (some ⟨b1, o1, none⟩) n n, .nilIface] 62)) := (Below.refl _ _).alloc (Nat.le_refl _) _
  generalize w2.alloc (.cells #[.slice (some ⟨b1, o1, none⟩) n n, .nilIface] 62) = w3 at hcell0 hcell1 hb3 hfr ⊢
  have Hb3 : Hid (Below w2.heap.size w2 w3) := hb3
  clear hb3
  go_wp2_with (go_at_call 13; go_in)
  refine (cstr_hit _ b1 o1 n n l1 l2 (by have := HJ.out; have := HJN.out; omega) (Nat.le_refl _) (by unfold maxLen; omega) H0.out _ hcell0 hcell1 hfr (by rw [← HE.out]; exact Bys.below HB1'.out Hb3.out)).mono ?_
  rintro e w4 ⟨rfl, a', rfl, hBr, hab⟩
  rw [← HJ.out]
  obtain ⟨c', hc'⟩ : ∃ c', c' = n - (j + 1) := ⟨_, rfl⟩
  rw [← hc']
  clear hc'
  obtain ⟨n2, hn2⟩ : ∃ n2, n2 = l2.length := ⟨_, rfl⟩
  rw [← hn2]
  have HN2 : Hid (n2 = l2.length) := hn2
  have hjn2 : j + 1 + n2 = n := by rw [hn2]; exact HJN.out
  clear hn2
  have d0 : (w3.setCell ⟨w2.heap.size, 0, none⟩ (.slice (some a') n2 c')).cell? ⟨w2.heap.size, 0, none⟩ = some (.slice (some a') n2 c') := by go_simp
  have d1 : (w3.setCell ⟨w2.heap.size, 0, none⟩ (.slice (some a') n2 c')).cell? ⟨w2.heap.size, 1, none⟩ = some .nilIface := by go_simp
  have HBq : Hid (Bys (w3.setCell ⟨w2.heap.size, 0, none⟩ (.slice (some a') n2 c')) (some ⟨b2, o2, none⟩) l) := Bys.below HB2.out (Hb3.out.setCell (Nat.le_refl _) _)
  have HBr : Hid (Bys (w3.setCell ⟨w2.heap.size, 0, none⟩ (.slice (some a') n2 c')) (some a') l2) := Bys.setCell hBr (by
    intro x hx
    simp only [Option.some.injEq] at hx
    subst hx
    simp only [hab]
    omega) _
  have Hb4 : Hid (Below w2.heap.size w2 (w3.setCell ⟨w2.heap.size, 0, none⟩ (.slice (some a') n2 c'))) := Hb3.out.setCell (Nat.le_refl _) _
  clear hcell0 hcell1 hfr hBr hab hb1lt
  generalize w3.setCell ⟨w2.heap.size, 0, none⟩ (.slice (some a') n2 c') = w4 at d0 d1 HBq HBr Hb4 ⊢
  have hst : (strOfNums l1).size = j := by rw [strOfNums_size]; exact HJ.out.symm
  obtain ⟨s, hs⟩ : ∃ s, s = strOfNums l1 := ⟨_, rfl⟩
  rw [← hs] at hst ⊢
  have HS : Hid (s = strOfNums l1) := hs
  clear hs
  go_wp2_with (first
    | (go_at_call 15; refine (failed_no _ _ d1).mono ?_; rintro e w' ⟨rfl, rfl⟩)
    | (go_at_call 14; refine (rest_any _ _ _ d0).mono ?_; rintro e w' ⟨rfl, rfl⟩))
  clear d0 d1
  go_loopw [13] (fun i wr => ∃ k m : Nat, k ≤ j ∧ i = .int .i64 k ∧ wr = w4.drewN m) (fun i _ => n - (intOf i).toNat)
  case atStart => exact ⟨0, 0, Nat.zero_le _, rfl, rfl⟩
  case round =>
    obtain ⟨k, m, hk, rfl, rfl⟩ := hrel
    have HQ : Hid (∀ i, i < n → w4.cell? ⟨b2, o2 + i, none⟩ = some (.int .u8 (l.getD i 0))) := by
      obtain ⟨b, off, hx, hc⟩ := HBq.out hlp
      simp only [Option.some.injEq, Addr.mk.injEq, and_true] at hx
      obtain ⟨rfl, rfl⟩ := hx
      intro i hi
      exact hc i (by have := HL.out; omega)
    by_cases hlt : k < j
    · obtain ⟨y, hy⟩ : ∃ y, y = l1.getD k 0 := ⟨_, rfl⟩
      have hkl : k < l1.length := by have := HJ.out; omega
      have hy0 : (y == 0) = false := H0.out y (by rw [hy]; simp [hkl])
      have g1 : w4.cell? ⟨b2, o2 + k, none⟩ = some (.int .u8 y) := by rw [HQ.out k (by omega), hy, HE.out, getD_left _ _ _ hkl]
      obtain ⟨hks, hsk⟩ : ∃ h : k < s.size, (((s[k]'h).toNat : Nat) : Int) = y := by
        have := HS.out
        subst this
        rw [hy]
        exact str_at l1 k hkl HR.out
      have i1 : (0 : Int) ≤ (k : Int) := by omega
      have i2 : (k : Int) < (n : Int) := by omega
      have i3 : (k : Int) < (s.size : Int) := by omega
      have hne : (y != y) = false := by simp
      clear hy hjn2
      go_wp2
      go_quiet (fail)
      go_wp2
      go_roundw
      case rel => exact ⟨k + 1, _, by omega, by go_num, rfl⟩
      case measure => simp [intOf]; omega
    · obtain rfl : k = j := by omega
      have g1 : w4.cell? ⟨b2, o2 + k, none⟩ = some (.int .u8 0) := by
        rw [HQ.out k (by omega), HE.out, HJ.out]
        simp
      have hq2 := fun w => run_neq_slice_nil_any (P := Try.prog) w 22 5 (some a') n2 c' 0 0 Try.underlying22
      have HJ2 : Hid (k + 1 + n2 = n) := hjn2
      have e1 : n - (k + 1) = n2 := by omega
      have e2 : ((k : Int) == (n : Int)) = false := by simp; omega
      have HBs : Hid (Bys w4 (some ⟨b2, o2 + (k + 1), none⟩) l2) := by
        intro hp
        refine ⟨b2, o2 + (k + 1), rfl, fun i hi => ?_⟩
        rw [Nat.add_assoc, HQ.out _ (by have := HN2.out; omega), HE.out, HJ.out, show l1.length + 1 + i = l1.length + (i + 1) by omega, getD_right]
        simp
      have HBz : Hid (n2 = 0 → Bys w4 (some ⟨b2, o2, none⟩) l2) := by
        intro hz hp
        have := HN2.out
        omega
      have fin : ∀ q : Nat, Below w.heap.size w (w4.drewN q) := by
        intro q
        refine below_drewN ?_ q
        have s1 := Hb1.out.size
        have s2 := Hb2.out.size
        exact (Hb1.out.trans (Hb2.out.mono s1)).trans (Hb4.out.mono (Nat.le_trans s1 s2))
      have FIN : Hid (∀ q : Nat, Below w.heap.size w (w4.drewN q)) := fin
      clear hjn2 fin
      go_wp2_with fail
      · refine (beq_same (some a') (some ⟨b2, o2, none⟩) n2 c' n2 l2 HN2.out.symm (by have := HJ2.out; unfold maxLen; omega) _ (Bys.drewN HBr.out m) (Bys.drewN (HBz.out (by have := HJ2.out; omega)) m)).mono ?_
        rintro e w5 ⟨rfl, q, rfl⟩
        go_wp2
        go_ret
        exact ⟨rfl, FIN.out _⟩
      · refine (beq_same (some a') (some ⟨b2, o2 + (k + 1), none⟩) n2 c' n2 l2 HN2.out.symm (by have := HJ2.out; unfold maxLen; omega) _ (Bys.drewN HBr.out m) (Bys.drewN HBs.out m)).mono ?_
        rintro e w5 ⟨rfl, q, rfl⟩
        go_wp2
        go_ret
        exact ⟨rfl, FIN.out _⟩
end Go.Proofs.Qxb6615469a
