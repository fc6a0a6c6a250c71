import Derived.Test.Qxb6615469aBuf
namespace Go.Proofs.Qxb6615469a
open Go.RowKit
set_option linter.unusedVariables false

/-- Two bytes, the lower first; four likewise. -/
def le2 (x : Int) : List Int := [x % 256, x / 256 % 256]
def le4 (x : Int) : List Int := [x % 256, x / 256 % 256, x / 65536 % 256, x / 16777216 % 256]
theorem le2_length (x : Int) : (le2 x).length = 2 := rfl
theorem le4_length (x : Int) : (le4 x).length = 4 := rfl

theorem Bys.new2 (w : World) (o : Obj) (cs : Array Value) (l : List Int) (h : cs = (l.map (Value.int .u8)).toArray) : Bys ((w.alloc o).alloc (.cells cs 5)) (some ⟨w.heap.size + 1, 0, none⟩) l := by
  have := Bys.new (w.alloc o) cs l h
  simpa using this

set_option maxHeartbeats 400000 in
theorem le16_any (B : Nat) (v : Value) (l : List Int) (x : Int) (w : World) (hB : B ≤ w.heap.size) (hb : Buf B w v l) (hlen : l.length + 2 ≤ 100000000) :
    Calls Try.prog 42 #[.agg #[], v, .int .u16 x] w fun e w' => ∃ v', e = .returned v' ∧ Buf B w' v' (l ++ le2 x) ∧ Below B w w' := by
  have HB : Hid (Buf B w v l) := hb
  clear hb
  go_enter Try.func42, Try.ntmps42
  go_wp2_with (at_builtin; refine wpList_push _ rfl (.tmp 7) (.tmp 13) rfl B v l rfl ((HB.out.alloc _).alloc _) ⟨w.heap.size + 1, 0, none⟩ 2 2 (le2 x) rfl rfl (Bys.new2 w _ _ (le2 x) rfl) hlen (by simp; omega) ?_)
  intro v1 w1 h1 b1
  have H1 : Hid (Buf B w1 v1 (l ++ le2 x)) := h1
  have B1 : Hid (Below B w w1) := (((Below.refl _ _).alloc hB _).alloc (by simp; omega) _).trans b1
  clear h1 b1
  go_wp2
  go_ret
  exact ⟨_, rfl, H1.out, B1.out⟩

set_option maxHeartbeats 400000 in
theorem le32_any (B : Nat) (v : Value) (l : List Int) (x : Int) (w : World) (hB : B ≤ w.heap.size) (hb : Buf B w v l) (hlen : l.length + 4 ≤ 100000000) :
    Calls Try.prog 43 #[.agg #[], v, .int .u32 x] w fun e w' => ∃ v', e = .returned v' ∧ Buf B w' v' (l ++ le4 x) ∧ Below B w w' := by
  have HB : Hid (Buf B w v l) := hb
  clear hb
  go_enter Try.func43, Try.ntmps43
  go_wp2_with (at_builtin; refine wpList_push _ rfl (.tmp 7) (.tmp 19) rfl B v l rfl ((HB.out.alloc _).alloc _) ⟨w.heap.size + 1, 0, none⟩ 4 4 (le4 x) rfl rfl (Bys.new2 w _ _ (le4 x) rfl) hlen (by simp; omega) ?_)
  intro v1 w1 h1 b1
  have H1 : Hid (Buf B w1 v1 (l ++ le4 x)) := h1
  have B1 : Hid (Below B w w1) := (((Below.refl _ _).alloc hB _).alloc (by simp; omega) _).trans b1
  clear h1 b1
  go_wp2
  go_ret
  exact ⟨_, rfl, H1.out, B1.out⟩

set_option maxHeartbeats 400000 in
theorem app16_any (B : Nat) (v : Value) (l : List Int) (x : Int) (w : World) (hB : B ≤ w.heap.size) (hb : Buf B w v l) (hlen : l.length + 2 ≤ 100000000) :
    Calls Try.prog 38 #[v, .int .u16 x] w fun e w' => ∃ v', e = .returned v' ∧ Buf B w' v' (l ++ le2 x) ∧ Below B w w' := by
  have HB : Hid (Buf B w v l) := hb
  clear hb
  go_enter Try.func38, Try.ntmps38
  go_wp2_with fail
  refine (le16_any B v l x _ hB HB.out hlen).mono ?_
  rintro e w1 ⟨v1, rfl, h1, b1⟩
  have H1 : Hid (Buf B w1 v1 (l ++ le2 x)) := h1
  have B1 : Hid (Below B w w1) := b1
  clear h1 b1
  go_wp2
  go_ret
  exact ⟨_, rfl, H1.out, B1.out⟩

set_option maxHeartbeats 400000 in
theorem app32_any (B : Nat) (v : Value) (l : List Int) (x : Int) (w : World) (hB : B ≤ w.heap.size) (hb : Buf B w v l) (hlen : l.length + 4 ≤ 100000000) :
    Calls Try.prog 39 #[v, .int .u32 x] w fun e w' => ∃ v', e = .returned v' ∧ Buf B w' v' (l ++ le4 x) ∧ Below B w w' := by
  have HB : Hid (Buf B w v l) := hb
  clear hb
  go_enter Try.func39, Try.ntmps39
  go_wp2_with fail
  refine (le32_any B v l x _ hB HB.out hlen).mono ?_
  rintro e w1 ⟨v1, rfl, h1, b1⟩
  have H1 : Hid (Buf B w1 v1 (l ++ le4 x)) := h1
  have B1 : Hid (Below B w w1) := b1
  clear h1 b1
  go_wp2
  go_ret
  exact ⟨_, rfl, H1.out, B1.out⟩

theorem Buf.lit (B : Nat) (w : World) (cs : Array Value) (n : Nat) (l : List Int) (h : cs = (l.map (Value.int .u8)).toArray) (hn : n = l.length) (hB : B ≤ w.heap.size) (hm : n ≤ maxLen) :
    Buf B (w.alloc (.cells cs 5)) (.slice (some ⟨w.heap.size, 0, none⟩) n n) l := by
  subst hn
  have := World.ownsRow_lit (e := 5) (base := B) (size := 1) w cs l.length hB hm (by rw [h]; simp)
  unfold Buf
  rw [h] at this ⊢
  simpa using this

/-- The EOF packet's bytes. -/
def eofB (x : Int) : List Int := 254 :: 0 :: 0 :: le2 x

set_option maxHeartbeats 400000 in
theorem eofPacket_any (x : Int) (B : Nat) (w : World) (hB : B ≤ w.heap.size) :
    Calls Try.prog 25 #[.int .u16 x] w fun e w' => ∃ v', e = .returned v' ∧ Buf B w' v' (eofB x) ∧ Below B w w' := by
  go_enter Try.func25, Try.ntmps25
  go_wp2_with fail
  refine (app16_any B _ [254, 0, 0] x _ (by simp; omega) (Buf.lit B w _ 3 [254, 0, 0] rfl rfl hB (by unfold maxLen; omega)) (by simp)).mono ?_
  rintro e w1 ⟨v1, rfl, h1, b1⟩
  have H1 : Hid (Buf B w1 v1 (eofB x)) := h1
  have B1 : Hid (Below B w w1) := ((Below.refl _ _).alloc hB _).trans b1
  clear h1 b1
  go_wp2
  go_ret
  exact ⟨_, rfl, H1.out, B1.out⟩

theorem Bys.at {w : World} {b off : Nat} {l : List Int} (h : Bys w (some ⟨b, off, none⟩) l) (i : Nat) (hi : i < l.length) (y : Int) (hy : l.getD i 0 = y) : w.cell? ⟨b, off + i, none⟩ = some (.int .u8 y) := by
  obtain ⟨b', off', hx, hc⟩ := h (by omega)
  simp only [Option.some.injEq, Addr.mk.injEq, and_true] at hx
  obtain ⟨rfl, rfl⟩ := hx
  rw [hc i hi, hy]

set_option maxHeartbeats 1000000 in
theorem eofOK_any (b off c : Nat) (x : Int) (w : World) (h : Bys w (some ⟨b, off, none⟩) (eofB x)) :
    Calls Try.prog 26 #[.slice (some ⟨b, off, none⟩) 5 c, .int .u16 x] w fun e w' => e = .returned (.bool true) ∧ w = w' := by
  have c0 := h.at 0 (by simp [eofB, le2]) _ rfl
  have c1 := h.at 1 (by simp [eofB, le2]) _ rfl
  have c2 := h.at 2 (by simp [eofB, le2]) _ rfl
  have c3 := h.at 3 (by simp [eofB, le2]) _ rfl
  have c4 := h.at 4 (by simp [eofB, le2]) _ rfl
  simp only [eofB, le2, List.getD_cons_succ, List.getD_cons_zero, Nat.add_zero] at c0 c1 c2 c3 c4
  clear h
  go_enter Try.func26, Try.ntmps26
  go_wp2
  go_ret
  exact ⟨rfl, rfl⟩

/-- The statement-prepared packet's bytes. -/
def hdrB (id n : Int) : List Int := 0 :: (le4 id ++ (le2 n ++ [0, 0, 0, 0, 0]))

set_option maxHeartbeats 1000000 in
theorem headerOK_any (b off c : Nat) (id n : Int) (w : World) (h : Bys w (some ⟨b, off, none⟩) (hdrB id n)) :
    Calls Try.prog 28 #[.slice (some ⟨b, off, none⟩) 12 c, .int .u32 id, .int .i64 n] w fun e w' => e = .returned (.bool true) ∧ w = w' := by
  have c0 := h.at 0 (by simp [hdrB, le4, le2]) _ rfl
  have c1 := h.at 1 (by simp [hdrB, le4, le2]) _ rfl
  have c2 := h.at 2 (by simp [hdrB, le4, le2]) _ rfl
  have c3 := h.at 3 (by simp [hdrB, le4, le2]) _ rfl
  have c4 := h.at 4 (by simp [hdrB, le4, le2]) _ rfl
  have c5 := h.at 5 (by simp [hdrB, le4, le2]) _ rfl
  have c6 := h.at 6 (by simp [hdrB, le4, le2]) _ rfl
  have c7 := h.at 7 (by simp [hdrB, le4, le2]) _ rfl
  have c8 := h.at 8 (by simp [hdrB, le4, le2]) _ rfl
  have c9 := h.at 9 (by simp [hdrB, le4, le2]) _ rfl
  have c10 := h.at 10 (by simp [hdrB, le4, le2]) _ rfl
  have c11 := h.at 11 (by simp [hdrB, le4, le2]) _ rfl
  simp only [hdrB, le4, le2, List.cons_append, List.nil_append, List.getD_cons_succ, List.getD_cons_zero, Nat.add_zero] at c0 c1 c2 c3 c4 c5 c6 c7 c8 c9 c10 c11
  clear h
  go_enter Try.func28, Try.ntmps28
  go_wp2
  go_ret
  exact ⟨rfl, rfl⟩

theorem isEOF_empty (q len : Int) (a : Option Addr) (c : Nat) (w : World) :
    Calls Try.prog 24 #[.agg #[.int .u8 q, .int .i64 len, .slice a 0 c]] w fun e w' => e = .returned (.bool false) ∧ ∃ o, w' = w.alloc o := by
  go_enter Try.func24, Try.ntmps24
  go_wp2
  go_ret
  exact ⟨rfl, _, rfl⟩

theorem isEOF_yes (q len : Int) (b off n c : Nat) (w : World) (hn : 0 < n) (hl : len < 9) (hc : w.cell? ⟨b, off, none⟩ = some (.int .u8 254)) :
    Calls Try.prog 24 #[.agg #[.int .u8 q, .int .i64 len, .slice (some ⟨b, off, none⟩) n c]] w fun e w' => e = .returned (.bool true) ∧ ∃ o, w' = w.alloc o := by
  have hc' : ∀ o, (w.alloc o).cell? ⟨b, off, none⟩ = some (.int .u8 254) := fun o => Lib.cell?_alloc_some o hc
  have hn' : (0 : Int) < (n : Int) := by omega
  go_enter Try.func24, Try.ntmps24
  go_wp2
  go_ret
  exact ⟨rfl, _, rfl⟩

theorem isEOF_no (q len : Int) (b off n c : Nat) (y : Int) (w : World) (hn : 0 < n) (hy : (y == 254) = false) (hc : w.cell? ⟨b, off, none⟩ = some (.int .u8 y)) :
    Calls Try.prog 24 #[.agg #[.int .u8 q, .int .i64 len, .slice (some ⟨b, off, none⟩) n c]] w fun e w' => e = .returned (.bool false) ∧ ∃ o, w' = w.alloc o := by
  have hc' : ∀ o, (w.alloc o).cell? ⟨b, off, none⟩ = some (.int .u8 y) := fun o => Lib.cell?_alloc_some o hc
  have hn' : (0 : Int) < (n : Int) := by omega
  go_enter Try.func24, Try.ntmps24
  go_wp2
  go_ret
  exact ⟨rfl, _, rfl⟩

theorem le2_mod (n : Int) : le2 (n % 65536) = le2 n := by
  unfold le2
  rw [show n % 65536 % 256 = n % 256 by omega, show n % 65536 / 256 % 256 = n / 256 % 256 by omega]

set_option maxHeartbeats 400000 in
/-- The statement-prepared packet where there are no columns. -/
theorem stmt_none (id st : Int) (a : Option Addr) (c : Nat) (w : World) :
    Calls Try.prog 27 #[.int .u32 id, .slice a 0 c, .int .u16 st] w fun e w' => ∃ M v, e = .returned (.slice (some ⟨M, 0, none⟩) 1 1) ∧ w'.cell? ⟨M, 0, none⟩ = some v ∧ Buf w.heap.size w' v (hdrB id 0) ∧ Below w.heap.size w w' := by
  go_enter Try.func27, Try.ntmps27
  go_wp2_with fail
  refine (app32_any w.heap.size _ [0] id _ (by simp) (Buf.lit w.heap.size w _ 1 [0] rfl rfl (Nat.le_refl _) (by unfold maxLen; omega)) (by simp)).mono ?_
  rintro e w1 ⟨v1, rfl, h1, b1⟩
  have H1 : Hid (Buf w.heap.size w1 v1 ([0] ++ le4 id)) := h1
  have B1 : Hid (Below w.heap.size w w1) := ((Below.refl _ _).alloc (Nat.le_refl _) _).trans b1
  have g1 := B1.out.size
  clear h1 b1
  go_wp2_with fail
  refine (app16_any w.heap.size v1 ([0] ++ le4 id) 0 _ g1 H1.out (by simp [le4])).mono ?_
  rintro e w2 ⟨v2, rfl, h2, b2⟩
  have H2 : Hid (Buf w.heap.size w2 v2 ([0] ++ le4 id ++ le2 0)) := h2
  have B2 : Hid (Below w.heap.size w w2) := B1.out.trans b2
  have g2 := B2.out.size
  clear h2 b2
  go_wp2_with (at_builtin; refine wpList_push _ rfl (.tmp 16) (.tmp 17) rfl w.heap.size v2 ([0] ++ le4 id ++ le2 0) rfl (H2.out.alloc _) ⟨w2.heap.size, 0, none⟩ 5 5 [0, 0, 0, 0, 0] rfl rfl (Bys.new w2 _ [0, 0, 0, 0, 0] rfl) (by simp [le4, le2]) (by simp; omega) ?_)
  intro v3 w3 h3 b3
  have H3 : Hid (Buf w.heap.size w3 v3 (hdrB id 0)) := by
    show Buf w.heap.size w3 v3 (hdrB id 0)
    unfold hdrB
    simpa using h3
  have B3 : Hid (Below w.heap.size w w3) := (B2.out.alloc g2 _).trans b3
  have g3 := B3.out.size
  clear h3 b3
  obtain ⟨a3, c3, rfl, -⟩ := H3.out.form
  go_wp2
  go_ret
  refine ⟨_, _, rfl, ?_, H3.out.alloc _, B3.out.alloc g3 _⟩
  rw [cell_of_row _ w3.heap.size 0 _ 22 (0, 0) (heap_alloc_new w3 _)]
  rfl

theorem isEOF_first (q len : Int) (b off k c : Nat) (w : World) (hl : len < 9) (hc : w.cell? ⟨b, off, none⟩ = some (.int .u8 254)) :
    Calls Try.prog 24 #[.agg #[.int .u8 q, .int .i64 len, .slice (some ⟨b, off, none⟩) k c]] w fun e w' => e = .returned (.bool (decide ((1 : Int) ≤ (k : Int)))) ∧ ∃ o, w' = w.alloc o := by
  by_cases h0 : k = 0
  · subst h0
    exact isEOF_empty q len _ c w
  · have : decide ((1 : Int) ≤ (k : Int)) = true := decide_eq_true (by omega)
    rw [this]
    exact isEOF_yes q len b off k c w (by omega) hl hc

theorem isEOF_never (q len : Int) (b off k c : Nat) (y : Int) (w : World) (hy : (y == 254) = false) (hc : w.cell? ⟨b, off, none⟩ = some (.int .u8 y)) :
    Calls Try.prog 24 #[.agg #[.int .u8 q, .int .i64 len, .slice (some ⟨b, off, none⟩) k c]] w fun e w' => e = .returned (.bool false) ∧ ∃ o, w' = w.alloc o := by
  by_cases h0 : k = 0
  · subst h0
    exact isEOF_empty q len _ c w
  · exact isEOF_no q len b off k c y w (by omega) hy hc

theorem walk7_out (q st id k : Int) (w : World) (hk : k < 0 ∨ 5 < k) : Calls Try.prog 7 #[.int .u8 q, .int .u16 st, .int .u32 id, .int .i64 k] w fun e w' => e = .returned (.bool true) ∧ Below w.heap.size w w' := by
  rcases hk with hk | hk
  · go_enter Try.func7, Try.ntmps7
    go_wp2
    all_goals (go_ret; exact ⟨rfl, Below.refl _ _⟩)
  · have h0 : ¬ k < 0 := by omega
    go_enter Try.func7, Try.ntmps7
    go_wp2
    all_goals (go_ret; exact ⟨rfl, Below.refl _ _⟩)

set_option maxHeartbeats 1000000 in
theorem walk7_in (q st id : Int) (k : Nat) (w : World) (hk : k ≤ 5) : Calls Try.prog 7 #[.int .u8 q, .int .u16 st, .int .u32 id, .int .i64 k] w fun e w' => e = .returned (.bool true) ∧ Below w.heap.size w w' := by
  go_enter Try.func7, Try.ntmps7
  go_wp2_with fail
  refine (eofPacket_any st w.heap.size _ (Nat.le_refl _)).mono ?_
  rintro e w1 ⟨v1, rfl, h1, b1⟩
  obtain ⟨a1, c1, rfl, hy1, hc1, hm1, hn1, hx1⟩ := h1.form
  obtain ⟨p1, o1, rfl, -⟩ := hy1 (by simp [eofB])
  have e5 : (eofB st).length = 5 := rfl
  rw [e5] at hc1 ⊢
  have HY1 : Hid (Bys w1 (some ⟨p1, o1, none⟩) (eofB st)) := hy1
  have B1 : Hid (Below w.heap.size w w1) := b1
  have g1 := b1.size
  clear h1 hy1 b1 hn1 hx1 e5
  go_wp2_with fail
  refine (eofOK_any p1 o1 c1 st _ HY1.out).mono ?_
  rintro e w' ⟨rfl, rfl⟩
  have hkc : (k : Int) ≤ (c1 : Int) := by omega
  go_wp2_with fail
  refine (isEOF_first q 5 p1 o1 k c1 _ (by omega) (Lib.cell?_alloc_some _ (by have := HY1.out.at 0 (by simp [eofB]) 254 rfl; simpa using this))).mono ?_
  rintro e w2 ⟨rfl, o2, rfl⟩
  generalize hW2 : (w1.alloc _).alloc o2 = w2
  have B2 : Hid (Below w.heap.size w w2) := by
    show Below w.heap.size w w2
    rw [← hW2]
    exact (B1.out.alloc g1 _).alloc (by simp; omega) _
  clear hW2
  have g2 := B2.out.size
  go_wp2_with fail
  refine (stmt_none id st none 0 _).mono ?_
  rintro e w3 ⟨M, v3, rfl, hM, h3, b3⟩
  obtain ⟨a3, c3, rfl, hy3, hc3, hm3, hn3, hx3⟩ := h3.form
  obtain ⟨p3, o3, rfl, -⟩ := hy3 (by simp [hdrB])
  have e12 : (hdrB id 0).length = 12 := rfl
  rw [e12] at hc3 hM
  have HY3 : Hid (Bys w3 (some ⟨p3, o3, none⟩) (hdrB id 0)) := hy3
  have B3 : Hid (Below w.heap.size w w3) := B2.out.trans (b3.mono g2)
  have g3 := B3.out.size
  clear h3 hy3 b3 hn3 hx3 e12
  have hk3 : (k : Int) ≤ (c3 : Int) := by omega
  have hk0 : (0 : Int) ≤ (k : Int) := by omega
  go_wp2_with fail
  refine (headerOK_any p3 o3 c3 id 0 _ HY3.out).mono ?_
  rintro e w' ⟨rfl, rfl⟩
  go_wp2_with fail
  have hfresh : M < w3.heap.size := by simpa using World.block_lt_of_cell? _ _ hM
  have hne : ¬ M = w3.heap.size := by omega
  go_region
  all_goals go_wp2_with fail
  refine (isEOF_never q 12 p3 o3 k c3 0 _ (by decide) ?_).mono ?_
  · rw [World.cell?_drew]
    exact Lib.cell?_alloc_some _ (by have := HY3.out.at 0 (by simp [hdrB]) 0 rfl; simpa using this)
  rintro e w4 ⟨rfl, o4, rfl⟩
  go_wp2
  go_ret
  exact ⟨rfl, ((B3.out.alloc g3 _).drew).alloc (by simp; omega) _⟩
end Go.Proofs.Qxb6615469a
