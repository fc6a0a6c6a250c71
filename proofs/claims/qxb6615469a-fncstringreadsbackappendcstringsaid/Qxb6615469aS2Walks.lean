import Derived.Test.Qxb6615469aBuf
import Derived.Test.Qxb6615469aS1Walks
namespace Go.Proofs.Qxb6615469a
open Go.RowKit
set_option linter.unusedVariables false

theorem guard18_big (s t : ByteArray) (a : Option Addr) (n c : Nat) (hs : s.size ≤ maxLen) (ht : t.size ≤ maxLen) (hn : n ≤ maxLen) (w : World) (h : 1048576 < s.size + t.size + n) :
    Calls Try.prog 18 #[.string s, .string t, .slice a n c] w fun e w' => e = .returned (.bool false) ∧ w = w' := by
  unfold maxLen at hs ht hn
  go_enter Try.func18, Try.ntmps18
  go_wp2
  all_goals (go_ret; exact ⟨rfl, rfl⟩)

theorem guard18_small (s t : ByteArray) (a : Option Addr) (n c : Nat) (w : World) (h : s.size + t.size + n ≤ 1048576) :
    Calls Try.prog 18 #[.string s, .string t, .slice a n c] w fun e w' => e = .returned (.bool true) ∧ w = w' := by
  go_enter Try.func18, Try.ntmps18
  go_wp2
  go_ret
  exact ⟨rfl, rfl⟩

theorem walk4_big (s t : ByteArray) (a : Option Addr) (n c : Nat) (hs : s.size ≤ maxLen) (ht : t.size ≤ maxLen) (hn : n ≤ maxLen) (w : World) (h : 1048576 < s.size + t.size + n) :
    Calls Try.prog 4 #[.string s, .string t, .slice a n c] w fun e w' => e = .returned (.bool true) ∧ Below w.heap.size w w' := by
  go_enter Try.func4, Try.ntmps4
  go_wp2_with (go_at_call 18; refine (guard18_big s t a n c hs ht hn _ h).mono ?_; rintro e w' ⟨rfl, rfl⟩)
  go_ret
  exact ⟨rfl, Below.refl _ _⟩

set_option maxHeartbeats 400000 in
theorem walk4_zero (s t : ByteArray) (a : Option Addr) (n c : Nat) (w : World) (h : s.size + t.size + n ≤ 1048576) (hz : (∃ x ∈ nums s, x = 0) ∨ (∃ x ∈ nums t, x = 0)) :
    Calls Try.prog 4 #[.string s, .string t, .slice a n c] w fun e w' => e = .returned (.bool true) ∧ Below w.heap.size w w' := by
  have hs : s.size ≤ maxLen := by unfold maxLen; omega
  have ht : t.size ≤ maxLen := by unfold maxLen; omega
  rcases split0 (nums s) with h0 | ⟨l1, l2, e, _⟩
  · have hz' : ∃ x ∈ nums t, x = 0 := by
      rcases hz with ⟨x, hx, rfl⟩ | hz
      · have := h0 0 hx
        simp at this
      · exact hz
    have HZ : Hid (∃ x ∈ nums t, x = 0) := hz'
    have H0 : Hid (∀ x ∈ nums s, (x == 0) = false) := h0
    clear hz hz' h0
    go_enter Try.func4, Try.ntmps4
    go_wp2_with (go_at_call 18; refine (guard18_small s t a n c _ h).mono ?_; rintro e w' ⟨rfl, rfl⟩)
    refine (hasZero_no s hs H0.out _).mono ?_
    rintro e w' ⟨rfl, rfl⟩
    go_wp2_with fail
    refine (hasZero_yes t ht HZ.out _).mono ?_
    rintro e w' ⟨rfl, rfl⟩
    go_wp2
    go_ret
    exact ⟨rfl, Below.refl _ _⟩
  · have HZ : Hid (∃ x ∈ nums s, x = 0) := ⟨0, by rw [e]; simp, rfl⟩
    clear hz e
    go_enter Try.func4, Try.ntmps4
    go_wp2_with (go_at_call 18; refine (guard18_small s t a n c _ h).mono ?_; rintro e w' ⟨rfl, rfl⟩)
    refine (hasZero_yes s hs HZ.out _).mono ?_
    rintro e w' ⟨rfl, rfl⟩
    go_wp2
    go_ret
    exact ⟨rfl, Below.refl _ _⟩

theorem ZZappendC_any (B : Nat) (v : Value) (l : List Int) (s : ByteArray) (w : World) (hB : B ≤ w.heap.size) (hb : Buf B w v l) (hlen : l.length + s.size + 1 ≤ 100000000) :
    Calls Try.prog 20 #[v, .string s] w fun e w' => ∃ v', e = .returned v' ∧ Buf B w' v' (l ++ (nums s ++ [0])) ∧ Below B w w' := by
  have HB : Hid (Buf B w v l) := hb
  clear hb
  go_enter Try.func20, Try.ntmps20
  go_wp2_with fail
  refine (appendC_any B v l s _ hB HB.out hlen).mono ?_
  rintro e w1 ⟨v1, rfl, h1, b1⟩
  have H1 : Hid (Buf B w1 v1 (l ++ (nums s ++ [0]))) := h1
  have B1 : Hid (Below B w w1) := b1
  clear h1 b1
  go_wp2
  go_ret
  exact ⟨_, rfl, H1.out, B1.out⟩

set_option maxHeartbeats 1000000 in
theorem walk4_main (s t : ByteArray) (a : Option Addr) (n c : Nat) (z : List Int) (hz : z.length = n) (w : World) (h : s.size + t.size + n ≤ 1048576) (hu : Bys w a z)
    (hs0 : ∀ x ∈ nums s, (x == 0) = false) (ht0 : ∀ x ∈ nums t, (x == 0) = false) :
    Calls Try.prog 4 #[.string s, .string t, .slice a n c] w fun e w' => e = .returned (.bool true) ∧ Below w.heap.size w w' := by
  have hs : s.size ≤ maxLen := by unfold maxLen; omega
  have ht : t.size ≤ maxLen := by unfold maxLen; omega
  have HZ : Hid (z.length = n) := hz
  have HU : Hid (Bys w a z) := hu
  have HS0 : Hid (∀ x ∈ nums s, (x == 0) = false) := hs0
  have HT0 : Hid (∀ x ∈ nums t, (x == 0) = false) := ht0
  obtain ⟨L, hL⟩ : ∃ L : List Int, L = nums s ++ (0 :: (nums t ++ [0])) := ⟨_, rfl⟩
  have HL : Hid (L = nums s ++ (0 :: (nums t ++ [0]))) := hL
  have hLl : L.length = s.size + t.size + 2 := by rw [hL]; simp [nums_length]; omega
  have HLl : Hid (L.length = s.size + t.size + 2) := hLl
  clear hz hu hs0 ht0 hL hLl
  go_enter Try.func4, Try.ntmps4
  go_wp2_with (go_at_call 18; refine (guard18_small s t a n c _ h).mono ?_; rintro e w' ⟨rfl, rfl⟩)
  refine (hasZero_no s hs HS0.out _).mono ?_
  rintro e w' ⟨rfl, rfl⟩
  go_wp2_with fail
  refine (hasZero_no t ht HT0.out _).mono ?_
  rintro e w' ⟨rfl, rfl⟩
  go_wp2_with fail
  refine (ZZappendC_any w.heap.size (.slice none 0 0) [] s _ (Nat.le_refl _) (Buf.nil _ _) (by simp; omega)).mono ?_
  rintro e w1 ⟨v1, rfl, h1, b1⟩
  simp only [List.nil_append] at h1
  have H1 : Hid (Buf w.heap.size w1 v1 (nums s ++ [0])) := h1
  have B1 : Hid (Below w.heap.size w w1) := b1
  have g1 : w.heap.size ≤ w1.heap.size := b1.size
  clear h1 b1
  go_wp2_with fail
  refine (ZZappendC_any w.heap.size v1 (nums s ++ [0]) t _ g1 H1.out (by simp [nums_length]; omega)).mono ?_
  rintro e w2 ⟨v2, rfl, h2, b2⟩
  have H2 : Hid (Buf w.heap.size w2 v2 L) := by
    show Buf w.heap.size w2 v2 L
    rw [HL.out]; simpa using h2
  have B2 : Hid (Below w.heap.size w w2) := B1.out.trans b2
  clear h2 b2
  go_wp2
  go_loopw [7, 8] (fun v i wr => ∃ (k : Nat) (vb : Value), k ≤ n ∧ i = .int .i64 k ∧ vb = v ∧ Buf w.heap.size wr vb (L ++ z.take k) ∧ Below w.heap.size w wr) (fun _ i _ => n - (intOf i).toNat)
  case atStart => exact ⟨0, _, Nat.zero_le _, rfl, rfl, by simpa using H2.out, B2.out⟩
  case round =>
    obtain ⟨k, v, hk, rfl, rfl, hbuf, hbel⟩ := hrel
    have HBU : Hid (Buf w.heap.size wr v (L ++ z.take k)) := hbuf
    have HBE : Hid (Below w.heap.size w wr) := hbel
    have gw : w.heap.size ≤ wr.heap.size := hbel.size
    clear hbuf hbel
    by_cases hlt : k < n
    · obtain ⟨b, off, rfl, hc⟩ := HU.out (by have := HZ.out; omega)
      have hb : b < w.heap.size := World.block_lt_of_cell? _ _ (hc 0 (by have := HZ.out; omega))
      obtain ⟨y, hy⟩ : ∃ y, y = z.getD k 0 := ⟨_, rfl⟩
      have g1 : wr.cell? ⟨b, off + k, none⟩ = some (.int .u8 y) := by rw [HBE.out.cell hb, hy]; exact hc k (by have := HZ.out; omega)
      have ez : Hid (z.take (k + 1) = z.take k ++ [y]) := by
        have hk' : k < z.length := by have := HZ.out; omega
        show z.take (k + 1) = z.take k ++ [y]
        rw [List.take_succ_eq_append_getElem hk', hy]
        simp [hk']
      have hll : (L ++ z.take k).length + 1 ≤ 100000000 := by have := HLl.out; have := HZ.out; simp; omega
      clear hy hc
      go_wp2_with (at_builtin; refine wpList_push _ rfl (.tmp 57) (.tmp 62) rfl w.heap.size v (L ++ z.take k) rfl (HBU.out.alloc _) ⟨wr.heap.size, 0, none⟩ 1 1 [y] rfl rfl (Bys.new wr _ [y] rfl) hll (by simp; omega) ?_)
      intro v3 w3 h3 b3
      have H3 : Hid (Buf w.heap.size w3 v3 (L ++ z.take (k + 1))) := by
        show Buf w.heap.size w3 v3 (L ++ z.take (k + 1))
        rw [ez.out]; simpa using h3
      have B3 : Hid (Below w.heap.size w w3) := (HBE.out.alloc gw _).trans b3
      clear h3 b3
      go_wp2
      go_roundw
      case rel => exact ⟨k + 1, _, by omega, by go_num, rfl, H3.out, B3.out⟩
      case measure => simp [intOf]; omega
    · obtain rfl : k = n := by omega
      have e1 : z.take k = z := List.take_of_length_le (by have := HZ.out; omega)
      obtain ⟨af, cf, hv, hys, hcl, hcm, hnn, hxb⟩ := HBU.out.form
      rw [e1] at hys hv hcl hnn
      have hN : (L ++ z).length = s.size + t.size + k + 2 := by have := HLl.out; have := HZ.out; simp; omega
      obtain ⟨N, hNN⟩ : ∃ N, N = (L ++ z).length := ⟨_, rfl⟩
      rw [← hNN] at hv hcl hN
      subst hv
      have n1 : N ≤ s.size + t.size + k + 2 := by omega
      have n2 : s.size + t.size + k + 2 ≤ N := by omega
      obtain ⟨bf, of, rfl, hcf⟩ := hys (by omega)
      have HY : Hid (Bys wr (some ⟨bf, of, none⟩) (L ++ z)) := hys
      have hbf : bf < wr.heap.size := (hxb _ rfl).2.2.2
      have HNN : Hid (N = (L ++ z).length) := hNN
      clear hys hnn hxb hcf hN hNN e1
      go_wp2_with fail
      refine (newFields_any (some ⟨bf, of, none⟩) N cf _).mono ?_
      rintro e w3 ⟨rfl, rfl⟩
      have hcell0 : (wr.alloc (.cells #[.slice (some ⟨bf, of, none⟩) N cf, .nilIface] 62)).cell? ⟨wr.heap.size, 0, none⟩ = some (.slice (some ⟨bf, of, none⟩) N cf) := by
        rw [cell_of_row _ wr.heap.size 0 _ 62 (0, 0) (heap_alloc_new wr _)]; rfl
      have hcell1 : (wr.alloc (.cells #[.slice (some ⟨bf, of, none⟩) N cf, .nilIface] 62)).cell? ⟨wr.heap.size, 1, none⟩ = some .nilIface := by
        rw [cell_of_row _ wr.heap.size 1 _ 62 (0, 0) (heap_alloc_new wr _)]; rfl
      have hfr : (wr.alloc (.cells #[.slice (some ⟨bf, of, none⟩) N cf, .nilIface] 62)).frozen? ⟨wr.heap.size, 0, none⟩ = false := frozen_of_row _ _ _ _ _ (heap_alloc_new wr _)
      have hb3 : Below wr.heap.size wr (wr.alloc (.cells #[.slice (some ⟨bf, of, none⟩) N cf, .nilIface] 62)) := (Below.refl _ _).alloc (Nat.le_refl _) _
      generalize wr.alloc (.cells #[.slice (some ⟨bf, of, none⟩) N cf, .nilIface] 62) = w3 at hcell0 hcell1 hb3 hfr ⊢
      have Hb3 : Hid (Below wr.heap.size wr w3) := hb3
      have HY3 : Hid (Bys w3 (some ⟨bf, of, none⟩) (nums s ++ 0 :: (nums t ++ 0 :: z))) := by
        have := Bys.below HY.out hb3
        rw [HL.out] at this
        show Bys w3 (some ⟨bf, of, none⟩) (nums s ++ 0 :: (nums t ++ 0 :: z))
        simpa using this
      clear hb3
      go_wp2_with (go_at_call 13; go_in)
      have hc62 : N ≤ cf := hcl
      refine (cstr_hit wr.heap.size bf of N cf (nums s) (nums t ++ 0 :: z) (by have := HZ.out; simp [nums_length]; omega) hcl (by unfold maxLen; omega) HS0.out _ hcell0 hcell1 hfr HY3.out).mono ?_
      rintro e w4 ⟨rfl, a', rfl, hBr, hab⟩
      rw [strOfNums_nums]
      obtain ⟨c', hc'⟩ : ∃ c', c' = cf - ((nums s).length + 1) := ⟨_, rfl⟩
      rw [← hc']
      obtain ⟨N2, hN2⟩ : ∃ N2, N2 = (nums t ++ 0 :: z).length := ⟨_, rfl⟩
      rw [← hN2]
      have HN2 : Hid (N2 = (nums t ++ 0 :: z).length) := hN2
      have hN2c : N2 ≤ c' := by have := HZ.out; rw [hN2, hc']; simp [nums_length]; omega
      obtain ⟨ba, oa, hxa, hca⟩ := hBr (by simp; omega)
      simp only [Option.some.injEq] at hxa
      subst hxa
      have hba : ba = bf := hab
      have d0 : (w3.setCell ⟨wr.heap.size, 0, none⟩ (.slice (some ⟨ba, oa, none⟩) N2 c')).cell? ⟨wr.heap.size, 0, none⟩ = some (.slice (some ⟨ba, oa, none⟩) N2 c') := by go_simp
      have d1 : (w3.setCell ⟨wr.heap.size, 0, none⟩ (.slice (some ⟨ba, oa, none⟩) N2 c')).cell? ⟨wr.heap.size, 1, none⟩ = some .nilIface := by go_simp
      have df : (w3.setCell ⟨wr.heap.size, 0, none⟩ (.slice (some ⟨ba, oa, none⟩) N2 c')).frozen? ⟨wr.heap.size, 0, none⟩ = false := by go_simp
      have HBr : Hid (Bys (w3.setCell ⟨wr.heap.size, 0, none⟩ (.slice (some ⟨ba, oa, none⟩) N2 c')) (some ⟨ba, oa, none⟩) (nums t ++ 0 :: z)) := Bys.setCell hBr (by
        intro x hx
        simp only [Option.some.injEq] at hx
        subst hx
        simp only [hba]
        omega) _
      have Hb4 : Hid (Below wr.heap.size wr (w3.setCell ⟨wr.heap.size, 0, none⟩ (.slice (some ⟨ba, oa, none⟩) N2 c'))) := Hb3.out.setCell (Nat.le_refl _) _
      have hbal : ba < wr.heap.size := by omega
      clear hcell0 hcell1 hfr hBr hab hba hc' hca hN2
      generalize w3.setCell ⟨wr.heap.size, 0, none⟩ (.slice (some ⟨ba, oa, none⟩) N2 c') = w4 at d0 d1 df HBr Hb4 ⊢
      go_wp2_with (go_at_call 13; go_in)
      refine (cstr_hit wr.heap.size ba oa N2 c' (nums t) z (by have := HN2.out; simp at this; omega) hN2c (by have := HN2.out; have := HZ.out; simp [nums_length] at *; unfold maxLen; omega) HT0.out _ d0 d1 df HBr.out).mono ?_
      rintro e w5 ⟨rfl, a2, rfl, hBr2, hab2⟩
      rw [strOfNums_nums, HZ.out]
      obtain ⟨c2, hc2⟩ : ∃ c2, c2 = c' - ((nums t).length + 1) := ⟨_, rfl⟩
      rw [← hc2]
      have f0 : (w4.setCell ⟨wr.heap.size, 0, none⟩ (.slice (some a2) k c2)).cell? ⟨wr.heap.size, 0, none⟩ = some (.slice (some a2) k c2) := by go_simp
      have f1 : (w4.setCell ⟨wr.heap.size, 0, none⟩ (.slice (some a2) k c2)).cell? ⟨wr.heap.size, 1, none⟩ = some .nilIface := by go_simp
      have HBr2 : Hid (Bys (w4.setCell ⟨wr.heap.size, 0, none⟩ (.slice (some a2) k c2)) (some a2) z) := Bys.setCell hBr2 (by
        intro x hx
        simp only [Option.some.injEq] at hx
        subst hx
        simp only [hab2]
        omega) _
      have Hb5 : Hid (Below wr.heap.size wr (w4.setCell ⟨wr.heap.size, 0, none⟩ (.slice (some a2) k c2))) := Hb4.out.setCell (Nat.le_refl _) _
      have Hb6 : Hid (Below w.heap.size w (w4.setCell ⟨wr.heap.size, 0, none⟩ (.slice (some a2) k c2))) := HBE.out.trans (Hb5.out.mono gw)
      clear d0 d1 df hBr2 hab2 hc2
      generalize w4.setCell ⟨wr.heap.size, 0, none⟩ (.slice (some a2) k c2) = w5 at f0 f1 HBr2 Hb5 Hb6 ⊢
      have HBu : Hid (Bys w5 a z) := Bys.below HU.out Hb6.out
      go_wp2_with (first
        | (go_at_call 15; refine (failed_no _ _ f1).mono ?_; rintro e w' ⟨rfl, rfl⟩)
        | (go_at_call 14; refine (rest_any _ _ _ f0).mono ?_; rintro e w' ⟨rfl, rfl⟩))
      refine (beq_same (some a2) a k c2 c z HZ.out (by unfold maxLen; omega) _ HBr2.out HBu.out).mono ?_
      rintro e w6 ⟨rfl, q, rfl⟩
      go_wp2
      go_ret
      exact ⟨rfl, below_drewN Hb6.out q⟩
end Go.Proofs.Qxb6615469a
