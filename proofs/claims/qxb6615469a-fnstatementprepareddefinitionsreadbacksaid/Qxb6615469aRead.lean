import Derived.Test.Qxb6615469aColumns
namespace Go.Proofs.Qxb6615469a
open Go.RowKit
set_option linter.unusedVariables false

set_option maxHeartbeats 400000 in
theorem read_small (b off n c pos : Nat) (x : Int) (w : World) (hn : n ≤ 100000000) (hp : pos < n) (h0 : 0 ≤ x) (h1 : x < 251) (c0 : w.cell? ⟨b, off + pos, none⟩ = some (.int .u8 x)) :
    Calls Try.prog 41 #[.slice (some ⟨b, off, none⟩) n c, .int .i64 pos] w fun e w' => e = .returned (.tuple #[.int .u64 x, .int .i64 ((pos + 1 : Nat) : Int), .bool true]) ∧ w = w' := by
  go_enter Try.func41, Try.ntmps41
  go_wp2
  go_ret3
  exact ⟨by simp, rfl⟩

theorem ret_lenenc {x a b : Int} (h : a = b) : Ending.returned (.tuple #[.int .u64 x, .int .i64 a, .bool true]) = .returned (.tuple #[.int .u64 x, .int .i64 b, .bool true]) := by rw [h]

theorem or8 (a b : Int) (h0 : 0 ≤ a) (h1 : a < 1099511627776) (h2 : 0 ≤ b) (h3 : b < 256) : bits .or .u64 (a * 256) b = a * 256 + b := by
  obtain ⟨m, rfl⟩ : ∃ m : Nat, a = m := ⟨a.toNat, by omega⟩
  obtain ⟨k, rfl⟩ : ∃ k : Nat, b = k := ⟨b.toNat, by omega⟩
  have e1 : ((m : Int) * 256) = ((m * 256 : Nat) : Int) := by omega
  rw [e1, u64_or_nat (m * 256) k (by omega) (by omega)]
  have e2 : m * 256 = m <<< 8 := by rw [Nat.shiftLeft_eq]
  have e3 : m * 256 ||| k = m * 256 + k := by
    rw [e2]
    exact (Nat.shiftLeft_add_eq_or_of_lt (by omega) m).symm
  rw [e3]
  omega
theorem or0 (b : Int) (h2 : 0 ≤ b) (h3 : b < 256) : bits .or .u64 0 b = b := by
  have := or8 0 b (by omega) (by omega) h2 h3
  simpa using this

set_option maxHeartbeats 400000 in
theorem read_mid (b off n c pos : Nat) (x : Int) (w : World) (hn : n ≤ 100000000) (hp : pos + 2 < n) (h0 : 251 ≤ x) (h1 : x < 65536) (c0 : w.cell? ⟨b, off + pos, none⟩ = some (.int .u8 252))
    (c1 : w.cell? ⟨b, off + (pos + 1), none⟩ = some (.int .u8 (x % 256))) (c2 : w.cell? ⟨b, off + (pos + 2), none⟩ = some (.int .u8 (x / 256 % 256))) :
    Calls Try.prog 41 #[.slice (some ⟨b, off, none⟩) n c, .int .i64 pos] w fun e w' => e = .returned (.tuple #[.int .u64 x, .int .i64 ((pos + 3 : Nat) : Int), .bool true]) ∧ w = w' := by
  obtain ⟨lo, hlo⟩ : ∃ lo, lo = x % 256 := ⟨_, rfl⟩
  obtain ⟨hi, hhi⟩ : ∃ hi, hi = x / 256 % 256 := ⟨_, rfl⟩
  rw [← hlo] at c1
  rw [← hhi] at c2
  have HX : Hid (x = hi * 256 + lo) := by show x = hi * 256 + lo; omega
  have b1 : 0 ≤ lo := by omega
  have b2 : lo < 256 := by omega
  have b3 : 0 ≤ hi := by omega
  have b4 : hi < 256 := by omega
  have b5 : 251 ≤ hi * 256 + lo := by omega
  have f1 := or0 hi b3 b4
  have f2 := or8 hi lo b3 (by omega) b1 b2
  rw [HX.out]
  clear hlo hhi h0 h1
  go_enter Try.func41, Try.ntmps41
  go_wp2
  refine wp_loop_rounds 3 ?_
  rw [rounds_succ]
  go_wp2
  rw [rounds_succ]
  go_wp2
  rw [rounds_succ]
  go_wp2
  go_ret3
  exact ⟨ret_lenenc (by omega), rfl⟩

set_option maxHeartbeats 400000 in
theorem read_big (b off n c pos : Nat) (x : Int) (w : World) (hn : n ≤ 100000000) (hp : pos + 3 < n) (h0 : 65536 ≤ x) (h1 : x < 16777216) (c0 : w.cell? ⟨b, off + pos, none⟩ = some (.int .u8 253))
    (c1 : w.cell? ⟨b, off + (pos + 1), none⟩ = some (.int .u8 (x % 256))) (c2 : w.cell? ⟨b, off + (pos + 2), none⟩ = some (.int .u8 (x / 256 % 256))) (c3 : w.cell? ⟨b, off + (pos + 3), none⟩ = some (.int .u8 (x / 65536))) :
    Calls Try.prog 41 #[.slice (some ⟨b, off, none⟩) n c, .int .i64 pos] w fun e w' => e = .returned (.tuple #[.int .u64 x, .int .i64 ((pos + 4 : Nat) : Int), .bool true]) ∧ w = w' := by
  obtain ⟨lo, hlo⟩ : ∃ lo, lo = x % 256 := ⟨_, rfl⟩
  obtain ⟨mi, hmi⟩ : ∃ hi, hi = x / 256 % 256 := ⟨_, rfl⟩
  obtain ⟨hi, hhi⟩ : ∃ hi, hi = x / 65536 := ⟨_, rfl⟩
  rw [← hlo] at c1
  rw [← hmi] at c2
  rw [← hhi] at c3
  have HX : Hid (x = (hi * 256 + mi) * 256 + lo) := by show x = (hi * 256 + mi) * 256 + lo; omega
  have b1 : 0 ≤ lo := by omega
  have b2 : lo < 256 := by omega
  have b3 : 0 ≤ hi := by omega
  have b4 : hi < 256 := by omega
  have b5 : 0 ≤ mi := by omega
  have b6 : mi < 256 := by omega
  have b7 : 65536 ≤ (hi * 256 + mi) * 256 + lo := by omega
  have f1 := or0 hi b3 b4
  have f2 := or8 hi mi b3 (by omega) b5 b6
  have f3 := or8 (hi * 256 + mi) lo (by omega) (by omega) b1 b2
  rw [HX.out]
  clear hlo hhi hmi h0 h1
  go_enter Try.func41, Try.ntmps41
  go_wp2
  refine wp_loop_rounds 4 ?_
  rw [rounds_succ]
  go_wp2
  rw [rounds_succ]
  go_wp2
  rw [rounds_succ]
  go_wp2
  rw [rounds_succ]
  go_wp2
  go_ret3
  exact ⟨ret_lenenc (by omega), rfl⟩

theorem getD_mid (a l r : List Int) (i : Nat) (h : i < l.length) : (a ++ (l ++ r)).getD (a.length + i) 0 = l.getD i 0 := by
  rw [getD_right, getD_left _ _ _ h]

/-- zzReadLenenc at a length-encoded number that stands in the bytes. -/
theorem read_any (b off n c pos : Nat) (x : Int) (pre post : List Int) (w : World) (hn : n ≤ 100000000) (hd : (pre ++ (lenencB x ++ post)).length = n) (hpos : pre.length = pos) (h0 : 0 ≤ x) (h1 : x < 16777216)
    (h : Bys w (some ⟨b, off, none⟩) (pre ++ (lenencB x ++ post))) :
    Calls Try.prog 41 #[.slice (some ⟨b, off, none⟩) n c, .int .i64 pos] w fun e w' => e = .returned (.tuple #[.int .u64 x, .int .i64 ((pos + (lenencB x).length : Nat) : Int), .bool true]) ∧ w = w' := by
  subst hpos
  have hlen : pre.length + ((lenencB x).length + post.length) = n := by simpa using hd
  have at' : ∀ i y, i < (lenencB x).length → (lenencB x).getD i 0 = y → w.cell? ⟨b, off + (pre.length + i), none⟩ = some (.int .u8 y) := by
    intro i y hi hy
    exact h.at (pre.length + i) (by omega) y (by rw [getD_mid _ _ _ _ hi]; exact hy)
  by_cases c1 : x < 251
  · have e : lenencB x = [x] := by unfold lenencB; rw [if_pos c1]
    rw [e] at at' hlen ⊢
    exact read_small b off n c pre.length x w hn (by simp at hlen; omega) h0 c1 (by simpa using at' 0 x (by simp) rfl)
  · by_cases c2 : x < 65536
    · have e : lenencB x = 252 :: le2 x := by unfold lenencB; rw [if_neg c1, if_pos c2]
      rw [e] at at' hlen ⊢
      exact read_mid b off n c pre.length x w hn (by simp [le2] at hlen; omega) (by omega) c2 (by simpa using at' 0 252 (by simp) rfl) (at' 1 _ (by simp [le2]) rfl) (at' 2 _ (by simp [le2]) rfl)
    · have e : lenencB x = [253, x % 256, x / 256 % 256, x / 65536] := by unfold lenencB; rw [if_neg c1, if_neg c2]
      rw [e] at at' hlen ⊢
      exact read_big b off n c pre.length x w hn (by simp at hlen; omega) (by omega) h1 (by simpa using at' 0 253 (by simp) rfl) (at' 1 _ (by simp) rfl) (at' 2 _ (by simp) rfl) (at' 3 _ (by simp) rfl)
end Go.Proofs.Qxb6615469a
