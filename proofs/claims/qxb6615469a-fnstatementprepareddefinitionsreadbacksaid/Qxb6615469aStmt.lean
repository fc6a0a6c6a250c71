import Derived.Test.Qxb6615469aDefs
namespace Go.Proofs.Qxb6615469a
open Go.RowKit
set_option linter.unusedVariables false

/-- The messages of StatementPrepared. -/
def stmtB (id st : Int) (cs : List (ByteArray × Int)) : List (List Int) := if cs.length = 0 then [hdrB id 0] else hdrB id cs.length :: (cs.map colB ++ [eofB st])

/-- A row of messages is read from its value. -/
theorem Msgs.src {B : Nat} {w : World} {V : Value} {ls : List (List Int)} (h : Msgs B w V ls) (hp : 0 < ls.length) :
    ∃ g c, V = .slice (some ⟨g, 0, none⟩) ls.length c ∧ ls.length ≤ c ∧ c ≤ maxLen ∧ ∃ us : List Value, us.length = ls.length ∧ (∀ j u, us[j]? = some u → w.cell? ((⟨g, 0, none⟩ : Addr).add j) = some u) ∧ ∀ i (h : i < ls.length), ∃ v, us[i]? = some v ∧ Buf B w v ls[i] := by
  obtain ⟨vs, ho, hv⟩ := h
  have hl : vs.length = ls.length := by simpa using ho.1
  rcases ho.2 with ⟨rfl, hn⟩ | ⟨g, cap, cur, rfl, _, _, hnc, hcm, _⟩
  · omega
  · exact ⟨g, cap, rfl, hnc, hcm, vs, hl, ho.cells (g := g) rfl, hv⟩

/-- A literal of one message owns it. -/
theorem Msgs.one {B : Nat} {w : World} {v : Value} {l : List Int} (h : Buf B w v l) (hB : B ≤ w.heap.size) : Msgs B (w.alloc (.cells #[v] 22)) (.slice (some ⟨w.heap.size, 0, none⟩) 1 1) [l] := by
  refine ⟨[v], World.ownsRow_lit (e := 22) (base := B) (size := 1) w #[v] 1 hB (by unfold maxLen; omega) rfl, fun i hi => ?_⟩
  match i, hi with
  | 0, _ => exact ⟨v, rfl, h.alloc _⟩

set_option maxHeartbeats 1000000 in
theorem stmt_some (id st : Int) (cs : List (ByteArray × Int)) (a : Option Addr) (n c : Nat) (hn : cs.length = n) (hn0 : 0 < n) (hn1 : n ≤ 65536) (hsz : ∀ p ∈ cs, p.1.size ≤ 1048576) (hty : ∀ p ∈ cs, 0 ≤ p.2 ∧ p.2 ≤ 255) (w : World) (hc : Cols w a cs) :
    Calls Try.prog 27 #[.int .u32 id, .slice a n c, .int .u16 st] w fun e w' => ∃ V, e = .returned V ∧ Msgs w.heap.size w' V (hdrB id n :: (cs.map colB ++ [eofB st])) ∧ Below w.heap.size w w' := by
  have HN : Hid (cs.length = n) := hn
  have HC : Hid (Cols w a cs) := hc
  have HSZ : Hid (∀ p ∈ cs, p.1.size ≤ 1048576) := hsz
  have HTY : Hid (∀ p ∈ cs, 0 ≤ p.2 ∧ p.2 ≤ 255) := hty
  obtain ⟨G, hG⟩ : ∃ G, G = w.heap.size := ⟨_, rfl⟩
  have HG : Hid (G = w.heap.size) := hG
  rw [← hG]
  have hne : ((n : Int) == 0) = false := by simp; omega
  clear hn hc hsz hty hG
  go_enter Try.func27, Try.ntmps27
  go_wp2_with fail
  refine (app32_any G _ [0] id _ (by have := HG.out; simp; omega) (Buf.lit G w _ 1 [0] rfl rfl (by have := HG.out; omega) (by unfold maxLen; omega)) (by simp)).mono ?_
  rintro e w1 ⟨v1, rfl, h1, b1⟩
  have H1 : Hid (Buf G w1 v1 ([0] ++ le4 id)) := h1
  have B1 : Hid (Below G w w1) := ((Below.refl _ _).alloc (by have := HG.out; omega) _).trans b1
  have g1 : G ≤ w1.heap.size := by have := B1.out.size; have := HG.out; omega
  clear h1 b1
  go_wp2_with fail
  refine (app16_any G v1 ([0] ++ le4 id) _ _ g1 H1.out (by simp [le4])).mono ?_
  rintro e w2 ⟨v2, rfl, h2, b2⟩
  have ew : le2 (IntKind.u16.wrap n) = le2 n := by
    have : IntKind.u16.wrap n = (n : Int) % 65536 := by simp [IntKind.wrap, IntKind.bits, IntKind.signed]
    rw [this, le2_mod]
  rw [ew] at h2
  have H2 : Hid (Buf G w2 v2 ([0] ++ le4 id ++ le2 n)) := h2
  have B2 : Hid (Below G w w2) := B1.out.trans b2
  have g2 : G ≤ w2.heap.size := by have := b2.size; omega
  clear h2 b2 ew
  go_wp2_with (at_builtin; refine wpList_push _ rfl (.tmp 16) (.tmp 17) rfl G v2 ([0] ++ le4 id ++ le2 n) rfl (H2.out.alloc _) ⟨w2.heap.size, 0, none⟩ 5 5 [0, 0, 0, 0, 0] rfl rfl (Bys.new w2 _ [0, 0, 0, 0, 0] rfl) (by simp [le4, le2]) (by simp; omega) ?_)
  intro v3 w3 h3 b3
  have h3' : Buf G w3 v3 (hdrB id n) := by
    unfold hdrB
    simpa using h3
  have B3 : Hid (Below G w w3) := (B2.out.alloc g2 _).trans b3
  have g3 : G ≤ w3.heap.size := by have := B3.out.size; have := HG.out; omega
  obtain ⟨a3, c3, hv3, -⟩ := h3'.form
  subst hv3
  have H3 : Hid (Buf G w3 (.slice a3 (hdrB id n).length c3) (hdrB id n)) := h3'
  clear h3 b3 h3'
  go_wp2_with fail
  have m3 : Msgs G (w3.alloc (.cells #[.slice a3 (hdrB id n).length c3] 22)) (.slice (some ⟨w3.heap.size, 0, none⟩) 1 1) [hdrB id n] := Msgs.one H3.out g3
  have b4 : Below G w (w3.alloc (.cells #[.slice a3 (hdrB id n).length c3] 22)) := B3.out.alloc g3 _
  generalize w3.alloc (.cells #[.slice a3 (hdrB id n).length c3] 22) = w4 at m3 b4 ⊢
  have M4 : Hid (Msgs G w4 (.slice (some ⟨w3.heap.size, 0, none⟩) 1 1) [hdrB id n]) := m3
  have B4 : Hid (Below G w w4) := b4
  have g4 : G ≤ w4.heap.size := by have := b4.size; have := HG.out; omega
  clear m3 b4
  refine (defs_any cs a n c HN.out hn1 HSZ.out HTY.out st _ (Cols.below HC.out (by rw [← HG.out]; exact B4.out))).mono ?_
  rintro e w5 ⟨V5, rfl, h5, b5⟩
  have M5 : Hid (Msgs G w5 (.slice (some ⟨w3.heap.size, 0, none⟩) 1 1) [hdrB id n]) := M4.out.below b5
  have B5 : Hid (Below G w w5) := B4.out.trans (b5.mono g4)
  have g5 : G ≤ w5.heap.size := by have := b5.size; omega
  obtain ⟨gg, c5, hV5, hlc, hcm, us, hul, hucell, hu⟩ := h5.src (by simp)
  have hl5 : (cs.map colB ++ [eofB st]).length = n + 1 := by have := HN.out; simp; omega
  rw [hl5] at hV5 hul
  subst hV5
  have HSRC : Hid (∃ us : List Value, us.length = n + 1 ∧ (∀ j u, us[j]? = some u → w5.cell? ((⟨gg, 0, none⟩ : Addr).add j) = some u) ∧ ∀ i (h : i < (cs.map colB ++ [eofB st]).length), ∃ v, us[i]? = some v ∧ Buf G w5 v (cs.map colB ++ [eofB st])[i]) :=
    ⟨us, hul, hucell, fun i hi => by obtain ⟨v, e, hb⟩ := hu i hi; exact ⟨v, e, hb.base g4⟩⟩
  have HL5 : Hid ((cs.map colB ++ [eofB st]).length = n + 1) := hl5
  clear h5 b5 hlc hcm hul hucell hu hl5
  go_wp2_with (at_builtin; refine wpList_msgs _ rfl (.tmp 25) (.tmp 28) rfl G _ [hdrB id n] rfl M5.out ⟨gg, 0, none⟩ (n + 1) c5 (cs.map colB ++ [eofB st]) HL5.out rfl HSRC.out (by simp; omega) g5 ?_)
  intro V6 w6 h6 b6
  have H6 : Hid (Msgs G w6 V6 (hdrB id n :: (cs.map colB ++ [eofB st]))) := by
    show Msgs G w6 V6 (hdrB id n :: (cs.map colB ++ [eofB st]))
    simpa using h6
  have B6 : Hid (Below G w w6) := B5.out.trans b6
  clear h6 b6
  go_wp2
  go_ret
  exact ⟨_, rfl, H6.out, B6.out⟩

set_option maxHeartbeats 400000 in
/-- The statement-prepared packet where there are no columns. -/
theorem stmt_zero (id st : Int) (a : Option Addr) (c : Nat) (w : World) :
    Calls Try.prog 27 #[.int .u32 id, .slice a 0 c, .int .u16 st] w fun e w' => ∃ V, e = .returned V ∧ Msgs w.heap.size w' V [hdrB id 0] ∧ Below w.heap.size w w' := by
  go_enter Try.func27, Try.ntmps27
  go_wp2_with fail
  refine (app32_any w.heap.size _ [0] id _ (by simp) (Buf.lit w.heap.size w _ 1 [0] rfl rfl (Nat.le_refl _) (by unfold maxLen; omega)) (by simp)).mono ?_
  rintro e w1 ⟨v1, rfl, h1, b1⟩
  have H1 : Hid (Buf w.heap.size w1 v1 ([0] ++ le4 id)) := h1
  have B1 : Hid (Below w.heap.size w w1) := ((Below.refl _ _).alloc (Nat.le_refl _) _).trans b1
  have g1 := B1.out.size
  clear h1 b1
  go_wp2_with fail
  refine (app16_any w.heap.size v1 ([0] ++ le4 id) 0 _ g1 H1.out (by simp [le4])).mono ?_
  rintro e w2 ⟨v2, rfl, h2, b2⟩
  have H2 : Hid (Buf w.heap.size w2 v2 ([0] ++ le4 id ++ le2 0)) := h2
  have B2 : Hid (Below w.heap.size w w2) := B1.out.trans b2
  have g2 := B2.out.size
  clear h2 b2
  go_wp2_with (at_builtin; refine wpList_push _ rfl (.tmp 16) (.tmp 17) rfl w.heap.size v2 ([0] ++ le4 id ++ le2 0) rfl (H2.out.alloc _) ⟨w2.heap.size, 0, none⟩ 5 5 [0, 0, 0, 0, 0] rfl rfl (Bys.new w2 _ [0, 0, 0, 0, 0] rfl) (by simp [le4, le2]) (by simp; omega) ?_)
  intro v3 w3 h3 b3
  have H3 : Hid (Buf w.heap.size w3 v3 (hdrB id 0)) := by
    show Buf w.heap.size w3 v3 (hdrB id 0)
    unfold hdrB
    simpa using h3
  have B3 : Hid (Below w.heap.size w w3) := (B2.out.alloc g2 _).trans b3
  have g3 := B3.out.size
  clear h3 b3
  obtain ⟨a3, c3, rfl, -⟩ := H3.out.form
  go_wp2
  go_ret
  exact ⟨_, rfl, Msgs.one H3.out g3, B3.out.alloc g3 _⟩

theorem stmt_any (id st : Int) (cs : List (ByteArray × Int)) (a : Option Addr) (n c : Nat) (hn : cs.length = n) (hn1 : n ≤ 65536) (hsz : ∀ p ∈ cs, p.1.size ≤ 1048576) (hty : ∀ p ∈ cs, 0 ≤ p.2 ∧ p.2 ≤ 255) (w : World) (hc : Cols w a cs) :
    Calls Try.prog 27 #[.int .u32 id, .slice a n c, .int .u16 st] w fun e w' => ∃ V, e = .returned V ∧ Msgs w.heap.size w' V (stmtB id st cs) ∧ Below w.heap.size w w' := by
  unfold stmtB
  by_cases h0 : n = 0
  · subst h0
    rw [if_pos hn]
    exact stmt_zero id st a c w
  · rw [if_neg (by omega), hn]
    exact stmt_some id st cs a n c hn (by omega) hn1 hsz hty w hc
end Go.Proofs.Qxb6615469a
