import Derived.Test.Qxb6605836aRows
import Derived.WalkKit
import Derived.WalkSpells
import Derived.WalkLawsBesides
import Derived.Below
namespace Go.Proofs.Qxb6605836a
open Go.RowKit
set_option linter.unusedVariables false

theorem ret_bool {a b : Bool} (h : a = b) : Ending.returned (.bool a) = .returned (.bool b) := by rw [h]
theorem ret_int {k : IntKind} {a b : Int} (h : a = b) : Ending.returned (.int k a) = .returned (.int k b) := by rw [h]

/-- A wait of at least half a millisecond over the whole, rounded up; the greatest number where that is too great. -/
def up (x : Int) : Int := if x + 1000000 - x % 1000000 ≤ 9223372036854775807 then x + 1000000 - x % 1000000 else 9223372036854775807

theorem up_yes (x : Int) (h0 : 0 ≤ x) (h1 : x ≤ 9223372036854775807) (h : x < wrap64 (wrap64 (x + 1000000) - x % 1000000)) : wrap64 (wrap64 (x + 1000000) - x % 1000000) = up x := by
  unfold wrap64 at h ⊢
  unfold up
  split <;> omega
theorem up_no (x : Int) (h0 : 0 ≤ x) (h1 : x ≤ 9223372036854775807) (h : wrap64 (wrap64 (x + 1000000) - x % 1000000) ≤ x) : 9223372036854775807 = up x := by
  unfold wrap64 at h
  unfold up
  split <;> omega

theorem half_any (r : Int) (w : World) (h0 : 0 ≤ r) (h1 : r < 1000000) : Calls Try.prog 8 #[.int .i64 r, .int .i64 1000000] w fun e w' => e = .returned (.bool (decide (r + r < 1000000))) ∧ w = w' := by
  go_enter Try.func8, Try.ntmps8
  go_wp2
  go_ret
  exact ⟨rfl, rfl⟩

theorem round_low (x : Int) (w : World) (h0 : 0 ≤ x) (h1 : x ≤ 9223372036854775807) (hr : x % 1000000 + x % 1000000 < 1000000) :
    Calls Try.prog 6 #[.int .i64 x, .int .i64 1000000] w fun e w' => e = .returned (.int .i64 (x - x % 1000000)) ∧ w = w' := by
  have b0 : 0 ≤ x % 1000000 := by omega
  have b1 : x % 1000000 < 1000000 := by omega
  go_enter Try.func6, Try.ntmps6
  go_wp2_with (go_at_call 8; refine (half_any _ _ b0 b1).mono ?_; rintro e w' ⟨rfl, rfl⟩)
  go_ret
  exact ⟨rfl, rfl⟩

theorem round_high (x : Int) (w : World) (h0 : 0 ≤ x) (h1 : x ≤ 9223372036854775807) (hr : 1000000 ≤ x % 1000000 + x % 1000000) :
    Calls Try.prog 6 #[.int .i64 x, .int .i64 1000000] w fun e w' => e = .returned (.int .i64 (up x)) ∧ w = w' := by
  have b0 : 0 ≤ x % 1000000 := by omega
  have b1 : x % 1000000 < 1000000 := by omega
  go_enter Try.func6, Try.ntmps6
  go_wp2_with (go_at_call 8; refine (half_any _ _ b0 b1).mono ?_; rintro e w' ⟨rfl, rfl⟩)
  · go_ret
    exact ⟨ret_int (up_yes x h0 h1 ‹_›), rfl⟩
  · go_ret
    exact ⟨ret_int (up_no x h0 h1 ‹_›), rfl⟩

def NonPos (e : Ending) : Prop := ∃ y, e = .returned (.int .i64 y) ∧ y ≤ 0
theorem NonPos.mk {y : Int} (h : y ≤ 0) : NonPos (.returned (.int .i64 y)) := ⟨y, rfl, h⟩

theorem round_neg (x : Int) (w : World) (h0 : x < 0) (h1 : -9223372036854775808 ≤ x) :
    Calls Try.prog 6 #[.int .i64 x, .int .i64 1000000] w fun e w' => NonPos e ∧ w = w' := by
  obtain ⟨r, hr⟩ : ∃ r, r = -(x.tmod 1000000) := ⟨_, rfl⟩
  have e1 : x.tmod 1000000 = -((-x) % 1000000) := by
    have h2 : (-x).tmod 1000000 = (-x) % 1000000 := Int.tmod_eq_emod_of_nonneg (by omega)
    have h3 : (-x).tmod 1000000 = -(x.tmod 1000000) := Int.neg_tmod ..
    omega
  have b0 : 0 ≤ r := by omega
  have b1 : r < 1000000 := by omega
  have b2 : x + r ≤ 0 := by omega
  have e2 : x.tmod 1000000 = -r := by omega
  clear hr e1
  go_enter Try.func6, Try.ntmps6
  go_wp2_with (go_at_call 8; refine (half_any _ _ b0 b1).mono ?_; rintro e w' ⟨rfl, rfl⟩)
  · go_ret
    exact ⟨NonPos.mk b2, rfl⟩
  · go_ret
    exact ⟨NonPos.mk (by have h : wrap64 (wrap64 (x - 1000000) + r) < x := by assumption
                         show wrap64 (wrap64 (x - 1000000) + r) ≤ 0
                         omega), rfl⟩
  · go_ret
    exact ⟨NonPos.mk (y := -9223372036854775808) (by omega), rfl⟩

/-- What 'quoted' answers. -/
def qt (x : Int) : Int := if x < 0 then 0 else if x % 1000000 + x % 1000000 < 1000000 then (if 0 < x - x % 1000000 then x - x % 1000000 else x) else up x

theorem quoted_neg (x : Int) (w : World) (h0 : x < 0) (h1 : -9223372036854775808 ≤ x) : Calls Try.prog 5 #[.int .i64 x] w fun e w' => e = .returned (.int .i64 0) ∧ w = w' := by
  go_enter Try.func5, Try.ntmps5
  go_wp2_with fail
  refine (round_neg x _ h0 h1).mono ?_
  rintro e w' ⟨⟨y, rfl, hy⟩, rfl⟩
  have hy' : ¬ 0 < y := by omega
  go_wp2
  go_ret
  exact ⟨rfl, rfl⟩

theorem quoted_low (x : Int) (w : World) (h0 : 0 ≤ x) (h1 : x ≤ 9223372036854775807) (hr : x % 1000000 + x % 1000000 < 1000000) (hp : 0 < x - x % 1000000) : Calls Try.prog 5 #[.int .i64 x] w fun e w' => e = .returned (.int .i64 (x - x % 1000000)) ∧ w = w' := by
  obtain ⟨y, hy⟩ : ∃ y, y = x - x % 1000000 := ⟨_, rfl⟩
  have HY : Hid (y = x - x % 1000000) := hy
  rw [← hy] at hp ⊢
  clear hy
  go_enter Try.func5, Try.ntmps5
  go_wp2_with fail
  refine (round_low x _ h0 h1 hr).mono ?_
  rw [← HY.out]
  rintro e w' ⟨rfl, rfl⟩
  go_wp2
  go_ret
  exact ⟨rfl, rfl⟩

theorem quoted_small (x : Int) (w : World) (h0 : 0 ≤ x) (h1 : x < 500000) : Calls Try.prog 5 #[.int .i64 x] w fun e w' => e = .returned (.int .i64 x) ∧ w = w' := by
  have e0 : x - x % 1000000 = 0 := by omega
  have HE : Hid (x - x % 1000000 = 0) := e0
  clear e0
  go_enter Try.func5, Try.ntmps5
  go_wp2_with fail
  refine (round_low x _ h0 (by omega) (by omega)).mono ?_
  rw [HE.out]
  rintro e w' ⟨rfl, rfl⟩
  go_wp2
  · go_ret
    exact ⟨rfl, rfl⟩
  · go_ret
    exact ⟨ret_int (a := 0) (by omega), rfl⟩

theorem up_pos (x : Int) (h0 : 0 ≤ x) : 0 < up x := by unfold up; split <;> omega

theorem quoted_high (x : Int) (w : World) (h0 : 0 ≤ x) (h1 : x ≤ 9223372036854775807) (hr : 1000000 ≤ x % 1000000 + x % 1000000) : Calls Try.prog 5 #[.int .i64 x] w fun e w' => e = .returned (.int .i64 (up x)) ∧ w = w' := by
  have hp := up_pos x h0
  go_enter Try.func5, Try.ntmps5
  go_wp2_with fail
  refine (round_high x _ h0 h1 hr).mono ?_
  rintro e w' ⟨rfl, rfl⟩
  go_wp2
  go_ret
  exact ⟨rfl, rfl⟩

theorem quoted_any (x : Int) (w : World) (h0 : -9223372036854775808 ≤ x) (h1 : x ≤ 9223372036854775807) : Calls Try.prog 5 #[.int .i64 x] w fun e w' => e = .returned (.int .i64 (qt x)) ∧ w = w' := by
  unfold qt
  by_cases c1 : x < 0
  · rw [if_pos c1]; exact quoted_neg x w c1 h0
  rw [if_neg c1]
  by_cases c2 : x % 1000000 + x % 1000000 < 1000000
  · rw [if_pos c2]
    by_cases c3 : 0 < x - x % 1000000
    · rw [if_pos c3]; exact quoted_low x w (by omega) h1 c2 c3
    · rw [if_neg c3]; exact quoted_small x w (by omega) (by omega)
  · rw [if_neg c2]; exact quoted_high x w (by omega) h1 (by omega)

theorem ZZq_any (x y : Int) (hy : qt x = y) (w : World) (h0 : -9223372036854775808 ≤ x) (h1 : x ≤ 9223372036854775807) : Calls Try.prog 4 #[.int .i64 x] w fun e w' => e = .returned (.int .i64 y) ∧ w = w' := by
  subst hy
  go_enter Try.func4, Try.ntmps4
  go_wp2_with fail
  refine (quoted_any x _ h0 h1).mono ?_
  rintro e w' ⟨rfl, rfl⟩
  go_wp2
  go_ret
  exact ⟨rfl, rfl⟩

theorem qt_range (x : Int) (h1 : x ≤ 9223372036854775807) : 0 ≤ qt x ∧ qt x ≤ 9223372036854775807 := by
  unfold qt up
  split
  · omega
  · split
    · split <;> omega
    · split <;> omega
theorem qt_mono (x y : Int) (h : x ≤ y) (h1 : y ≤ 9223372036854775807) : qt x ≤ qt y := by
  unfold qt up
  repeat' split
  all_goals omega
theorem qt_twice (x : Int) (h1 : x ≤ 9223372036854775807) : qt (qt x) = qt x := by
  have h2 : ∀ y, 0 ≤ y → (y % 1000000 = 0 ∨ y < 500000 ∨ y = 9223372036854775807) → y ≤ 9223372036854775807 → qt y = y := by
    intro y h0 h hm
    unfold qt up
    rw [if_neg (by omega)]
    rcases h with h | h | h
    · rw [if_pos (by omega)]
      split <;> omega
    · rw [if_pos (by omega)]
      split <;> omega
    · subst h
      decide
  have hr := qt_range x h1
  refine h2 (qt x) hr.1 ?_ hr.2
  unfold qt up
  split
  · left; rfl
  · split
    · split
      · left; omega
      · right; left; omega
    · split
      · left; omega
      · right; right; rfl
/-- Where a quoted wait lies. -/
theorem qt_where (x : Int) (h1 : x ≤ 9223372036854775807) : (x < 0 ∧ qt x = 0) ∨ (0 ≤ x ∧ x < 500000 ∧ qt x = x) ∨
    (500000 ≤ x ∧ qt x % 1000000 = 0 ∧ qt x - x ≤ 500000 ∧ x - qt x ≤ 500000 ∧ qt x < 9223372036854775807) ∨ (9223372036853775807 < x ∧ 9223372036854775807 - x ≤ 500000 ∧ qt x = 9223372036854775807) := by
  unfold qt up
  split
  · left; omega
  · split
    · split
      · right; right; left; omega
      · right; left; omega
    · split
      · right; right; left; omega
      · right; right; right; omega

set_option maxHeartbeats 1000000 in
theorem walk_all (a b : Int) (w : World) (ha0 : -9223372036854775808 ≤ a) (ha1 : a ≤ 9223372036854775807) (hb0 : -9223372036854775808 ≤ b) (hb1 : b ≤ 9223372036854775807) :
    Calls Try.prog 3 #[.int .i64 a, .int .i64 b] w fun e w' => e = .returned (.bool true) ∧ w = w' := by
  obtain ⟨x, hx⟩ : ∃ x, qt a = x := ⟨_, rfl⟩
  obtain ⟨y, hy⟩ : ∃ y, qt b = y := ⟨_, rfl⟩
  have rx := qt_range a ha1
  have ry := qt_range b hb1
  have ht := qt_twice a ha1
  have hw := qt_where a ha1
  have m1 : a ≤ b → x ≤ y := fun h => by rw [← hx, ← hy]; exact qt_mono a b h hb1
  have m2 : b ≤ a → y ≤ x := fun h => by rw [← hx, ← hy]; exact qt_mono b a h ha1
  rw [hx] at rx ht hw
  rw [hy] at ry
  obtain ⟨rx0, rx1⟩ := rx
  obtain ⟨ry0, ry1⟩ := ry
  have HX : Hid (qt a = x) := hx
  have HY : Hid (qt b = y) := hy
  have HT : Hid (qt x = x) := ht
  have HA : Hid (-9223372036854775808 ≤ a ∧ a ≤ 9223372036854775807) := ⟨ha0, ha1⟩
  have HB : Hid (-9223372036854775808 ≤ b ∧ b ≤ 9223372036854775807) := ⟨hb0, hb1⟩
  clear hx hy ht
  have hord : (a ≤ b ∧ x ≤ y ∧ (b ≤ a → y ≤ x)) ∨ (¬ a ≤ b ∧ b ≤ a ∧ y ≤ x) := by
    by_cases h : a ≤ b
    · exact .inl ⟨h, m1 h, m2⟩
    · exact .inr ⟨h, by omega, m2 (by omega)⟩
  clear m1 m2
  go_enter Try.func3, Try.ntmps3
  go_wp2_with fail
  refine (ZZq_any a x HX.out _ HA.out.1 HA.out.2).mono ?_
  rintro e w' ⟨rfl, rfl⟩
  go_wp2_with fail
  refine (ZZq_any b y HY.out _ HB.out.1 HB.out.2).mono ?_
  rintro e w' ⟨rfl, rfl⟩
  have nx : ¬ x < 0 := by omega
  have ny : ¬ y < 0 := by omega
  have hord2 : (a ≤ b ∧ ¬ b ≤ a ∧ x ≤ y) ∨ (a ≤ b ∧ b ≤ a ∧ x ≤ y ∧ y ≤ x) ∨ (¬ a ≤ b ∧ b ≤ a ∧ y ≤ x) := by
    rcases hord with ⟨h1, h2, h3⟩ | ⟨h1, h2, h3⟩
    · by_cases h : b ≤ a
      · exact .inr (.inl ⟨h1, h, h2, h3 h⟩)
      · exact .inl ⟨h1, h, h2⟩
    · exact .inr (.inr ⟨by omega, h2, h3⟩)
  have HW : Hid _ := hw
  clear hord hw ha0 ha1 hb0 hb1
  rcases hord2 with ⟨o1, o2, o3⟩ | ⟨o1, o2, o3, o4⟩ | ⟨o1, o2, o3⟩
  all_goals
    go_wp2_with fail
    refine (ZZq_any x x HT.out _ (by omega) rx1).mono ?_
    rintro e w' ⟨rfl, rfl⟩
    obtain ⟨hA0, hA1⟩ := HA.out
    clear ry0 ry1 ny
    rcases HW.out with ⟨h1, h2⟩ | ⟨h1, h2, h3⟩ | ⟨h1, h2, h3, h4, h5⟩ | ⟨h1, h2, h3⟩
    · subst h2
      clear HW HT HX
      go_wp2
      all_goals (go_ret; exact ⟨rfl, rfl⟩)
    · subst h3
      clear HW HT HX
      go_wp2
      all_goals (go_ret; first | exact ⟨rfl, rfl⟩ | exact ⟨ret_bool (a := decide (-(x - a) ≤ 500000)) (decide_eq_true (by omega)), rfl⟩)
    · clear HW HT HX
      go_wp2
      all_goals (go_ret; first | exact ⟨rfl, rfl⟩ | exact ⟨ret_bool (a := decide (-(x - a) ≤ 500000)) (decide_eq_true (by omega)), rfl⟩)
    · subst h3
      clear HW HT HX
      go_wp2
      all_goals (go_ret; first | exact ⟨rfl, rfl⟩ | exact ⟨ret_bool (a := decide (-(x - a) ≤ 500000)) (decide_eq_true (by omega)), rfl⟩)
end Go.Proofs.Qxb6605836a
