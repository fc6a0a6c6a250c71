import Derived.Test.Qxb6615469aRead
namespace Go.Proofs.Qxb6615469a
open Go.RowKit
set_option linter.unusedVariables false

theorem lenencB_pos (x : Int) : 1 ≤ (lenencB x).length := by
  unfold lenencB
  split
  · simp
  · split <;> simp [le2]

/-- The thirteen bytes behind the names. -/
def tailB (t : Int) : List Int := 12 :: (le2 (if t = 8 then 63 else 45) ++ (0 :: 0 :: 0 :: 0 :: t :: (le2 (if t = 8 then 161 else 1) ++ [0, 0, 0])))

theorem colB_parts (s : ByteArray) (t : Int) : colB (s, t) = [3, 100, 101, 102, 0, 0, 0] ++ (lenencB s.size ++ (nums s ++ (lenencB s.size ++ (nums s ++ tailB t)))) := by
  have e3 : lenencB 3 = [3] := rfl
  have e12 : lenencB 12 = [12] := rfl
  have e4 : le4 0 = [0, 0, 0, 0] := rfl
  simp [colB, tailB, e3, e12, e4]

set_option maxHeartbeats 1000000 in
set_option maxRecDepth 10000 in
theorem defOK_any (b off n c : Nat) (s : ByteArray) (t : Int) (w : World) (hn : (colB (s, t)).length = n) (hnc : n ≤ c) (hs : s.size ≤ 1048576) (ht0 : 0 ≤ t) (ht1 : t ≤ 255) (h : Bys w (some ⟨b, off, none⟩) (colB (s, t))) :
    Calls Try.prog 34 #[.slice (some ⟨b, off, none⟩) n c, .string s, .int .u8 t] w fun e w' => e = .returned (.bool true) ∧ w = w' := by
  obtain ⟨L, hL⟩ : ∃ L, L = (lenencB s.size).length := ⟨_, rfl⟩
  obtain ⟨D, hD⟩ : ∃ D, D = colB (s, t) := ⟨_, rfl⟩
  have hDp := colB_parts s t
  rw [← hD] at hDp h hn
  have hL4 : L ≤ 4 := by rw [hL]; exact lenencB_len _
  have hL1 : 1 ≤ L := by rw [hL]; exact lenencB_pos _
  have hN : n = 7 + L + s.size + L + s.size + 13 := by
    rw [← hn, hDp, hL]
    simp [nums_length, tailB, le2]
    omega
  have c0 := h.at 0 (by omega) 3 (by rw [hDp]; rfl)
  have c1 := h.at 1 (by omega) 100 (by rw [hDp]; rfl)
  have c2 := h.at 2 (by omega) 101 (by rw [hDp]; rfl)
  have c3 := h.at 3 (by omega) 102 (by rw [hDp]; rfl)
  have c4 := h.at 4 (by omega) 0 (by rw [hDp]; rfl)
  have c5 := h.at 5 (by omega) 0 (by rw [hDp]; rfl)
  have c6 := h.at 6 (by omega) 0 (by rw [hDp]; rfl)
  rw [Nat.add_zero] at c0
  have n1 : 7 + L + s.size + L + s.size + 13 ≤ n := by omega
  have n2 : n ≤ 7 + L + s.size + L + s.size + 13 := by omega
  have HD : Hid (D = [3, 100, 101, 102, 0, 0, 0] ++ (lenencB s.size ++ (nums s ++ (lenencB s.size ++ (nums s ++ tailB t))))) := hDp
  have HL : Hid (L = (lenencB s.size).length) := hL
  have HB : Hid (Bys w (some ⟨b, off, none⟩) D) := h
  have HDn : Hid (D.length = n) := hn
  clear hDp hL h hn hN hD
  go_enter Try.func34, Try.ntmps34
  go_wp2
  have HPR : Hid (∀ r, r < 2 → ∃ pre post : List Int, D = pre ++ (lenencB s.size ++ (nums s ++ post)) ∧ pre.length = 7 + r * (L + s.size)) := by
    intro r hr
    match r, hr with
    | 0, _ => exact ⟨_, _, HD.out, by simp⟩
    | 1, _ =>
      refine ⟨[3, 100, 101, 102, 0, 0, 0] ++ (lenencB s.size ++ nums s), tailB t, by rw [HD.out]; simp, ?_⟩
      rw [HL.out]
      simp [nums_length]
      omega
  clear c0 c1 c2 c3 c4 c5 c6
  go_loop [7, 8] (fun p i => ∃ r P : Nat, r ≤ 2 ∧ i = .int .i64 r ∧ p = .int .i64 P ∧ Hid (P = 7 + r * (L + s.size))) (fun _ i => 2 - (intOf i).toNat)
  case atStart => exact ⟨0, 7, by omega, rfl, rfl, by show 7 = 7 + 0 * (L + s.size); omega⟩
  case round =>
    obtain ⟨r, P, hr, rfl, rfl, HP⟩ := hrel
    by_cases hlt : r < 2
    · obtain ⟨pre, post, hpre, hpl⟩ := HPR.out r hlt
      have hP : P + L + s.size + 13 ≤ n := by
        have := HP.out
        have hr2 : r = 0 ∨ r = 1 := by omega
        rcases hr2 with rfl | rfl <;> omega
      have HPre : Hid (D = pre ++ (lenencB s.size ++ (nums s ++ post))) := hpre
      have HPl : Hid (pre.length = P) := by have := HP.out; show pre.length = P; omega
      clear hpre hpl
      have hc1 : Sem.run Try.prog (convert 22 9 (.slice (some ⟨b, off + (P + L), none⟩) s.size (c - (P + L)))) w = .ok (.string s) w := by
        have := run_convert_bytes_arg w 22 5 Try.underlying22 Try.underlying5 b (off + (P + L)) s.size (c - (P + L)) (nums s) (nums_length s) (fun i hi => by
          have hl : P + L + i < D.length := by have := HDn.out; omega
          rw [Nat.add_assoc]
          refine HB.out.at (P + L + i) hl _ ?_
          rw [HPre.out, ← List.append_assoc]
          have : (pre ++ lenencB ↑s.size : List Int).length = P + L := by rw [HL.out, ← HPl.out]; simp
          rw [← this, getD_mid _ _ _ _ (by rw [nums_length]; exact hi)]) 9 Try.underlying9
        rw [strOfNums_nums] at this
        exact this
      have HP2 : Hid (P + L + s.size = 7 + (r + 1) * (L + s.size)) := by
        show P + L + s.size = 7 + (r + 1) * (L + s.size)
        have h1 := HP.out
        have h2 : (r + 1) * (L + s.size) = r * (L + s.size) + (L + s.size) := by rw [Nat.add_mul, Nat.one_mul]
        omega
      have k1 : ((P + L : Nat) : Int) ≤ (n : Int) := by omega
      have k2 : ((P + L + s.size : Nat) : Int) ≤ (c : Int) := by omega
      go_wp2_with fail
      refine (read_any b off n c P s.size pre (nums s ++ post) _ (by omega) (by rw [← HPre.out]; exact HDn.out) HPl.out (by omega) (by omega) (by rw [← HPre.out]; exact HB.out)).mono ?_
      rw [← HL.out]
      rintro e w' ⟨rfl, rfl⟩
      go_wp2
      go_round
      case rel => exact ⟨r + 1, P + L + s.size, by omega, by go_num, by go_num, HP2⟩
      case measure => simp [intOf]; omega
    · obtain rfl : r = 2 := by omega
      have p1 : P + 13 ≤ n := by have := HP.out; omega
      have p2 : n ≤ P + 13 := by have := HP.out; omega
      have HT : Hid (∀ i y, i < 13 → (tailB t).getD i 0 = y → w.cell? ⟨b, off + P + i, none⟩ = some (.int .u8 y)) := by
        intro i y hi hy
        have hl : P + i < D.length := by have := HDn.out; omega
        rw [Nat.add_assoc]
        refine HB.out.at (P + i) hl _ ?_
        have e : D = ([3, 100, 101, 102, 0, 0, 0] ++ (lenencB s.size ++ (nums s ++ (lenencB s.size ++ nums s)))) ++ tailB t := by rw [HD.out]; simp
        have el : ([3, 100, 101, 102, 0, 0, 0] ++ (lenencB s.size ++ (nums s ++ (lenencB s.size ++ nums s))) : List Int).length = P := by
          rw [HP.out, HL.out]; simp [nums_length]; omega
        rw [e, ← el, getD_right]
        exact hy
      have t0 := HT.out 0 12 (by omega) rfl
      have t3 := HT.out 3 0 (by omega) rfl
      have t4 := HT.out 4 0 (by omega) rfl
      have t5 := HT.out 5 0 (by omega) rfl
      have t6 := HT.out 6 0 (by omega) rfl
      have t7 := HT.out 7 t (by omega) rfl
      have t10 := HT.out 10 0 (by omega) rfl
      have t11 := HT.out 11 0 (by omega) rfl
      have t12 := HT.out 12 0 (by omega) rfl
      rw [Nat.add_zero] at t0
      by_cases h8 : t = 8
      · subst h8
        have t1 := HT.out 1 63 (by omega) rfl
        have t2 := HT.out 2 0 (by omega) rfl
        have t8 := HT.out 8 161 (by omega) rfl
        have t9 := HT.out 9 0 (by omega) rfl
        go_wp2
        go_ret
        exact ⟨rfl, rfl⟩
      · have e45 : le2 (if t = 8 then 63 else 45) = [45, 0] := by rw [if_neg h8]; rfl
        have e1 : le2 (if t = 8 then 161 else 1) = [1, 0] := by rw [if_neg h8]; rfl
        have t1 := HT.out 1 45 (by omega) (by unfold tailB; rw [e45]; rfl)
        have t2 := HT.out 2 0 (by omega) (by unfold tailB; rw [e45]; rfl)
        have t8 := HT.out 8 1 (by omega) (by unfold tailB; rw [e45, e1]; rfl)
        have t9 := HT.out 9 0 (by omega) (by unfold tailB; rw [e45, e1]; rfl)
        have h8' : (t == 8) = false := by simpa using h8
        clear e45 e1 h8
        go_wp2
        go_ret
        exact ⟨rfl, rfl⟩
end Go.Proofs.Qxb6615469a
