import Derived.Test.Qxb6615469aMsgs
import Derived.Lib.SlBytesConst
namespace Go.Proofs.Qxb6615469a
open Go.RowKit
set_option linter.unusedVariables false

theorem conv_def (w : World) : Sem.run Try.prog (convert 22 22 (.slice (some ⟨w.heap.size, 0, none⟩) 3 3)) (w.alloc (.cells #[.int .u8 100, .int .u8 101, .int .u8 102] 5)) =
    .ok (.slice (some ⟨w.heap.size, 0, none⟩) 3 3) (w.alloc (.cells #[.int .u8 100, .int .u8 101, .int .u8 102] 5 (3, 4))) :=
  Lib.run_convert_bytes_const (P := Try.prog) w 22 5 _ 3 3 Try.underlying22 Try.underlying5

theorem Bys.newF (w : World) (cs : Array Value) (fr : Nat × Nat) (l : List Int) (h : cs = (l.map (Value.int .u8)).toArray) : Bys (w.alloc (.cells cs 5 fr)) (some ⟨w.heap.size, 0, none⟩) l := by
  intro hp
  refine ⟨w.heap.size, 0, rfl, fun i hi => ?_⟩
  rw [Nat.zero_add, cell_of_row _ w.heap.size i cs 5 fr (heap_alloc_new w _), h]
  simp [hi]

theorem colB_len (p : ByteArray × Int) (h : p.1.size ≤ 1048576) : (colB p).length ≤ 3000000 := by
  have h1 := lenencB_len p.1.size
  have h2 := lenencB_len 3
  have h3 := lenencB_len 12
  simp only [colB, List.length_append, nums_length, le2_length, le4_length, List.length_cons, List.length_nil]
  omega

/-- The call's own row of bytes ends below the heap's size: what is laid later lies elsewhere. -/
theorem Buf.ne {B : Nat} {w : World} {v : Value} {l : List Int} (h : Buf B w v l) (g : Nat) (hg : w.heap.size ≤ g) : some g ≠ v.ownBlock := by
  intro e
  have := (World.ownsRow.lt h g e.symm).2
  omega

set_option maxHeartbeats 4000000 in
theorem defs_any (cs : List (ByteArray × Int)) (a : Option Addr) (n c : Nat) (hn : cs.length = n) (hn1 : n ≤ 65536) (hsz : ∀ p ∈ cs, p.1.size ≤ 1048576) (hty : ∀ p ∈ cs, 0 ≤ p.2 ∧ p.2 ≤ 255) (st : Int) (w : World) (hc : Cols w a cs) :
    Calls Try.prog 40 #[.slice a n c, .slice none 0 0, .int .u16 st] w fun e w' => ∃ V, e = .returned V ∧ Msgs w.heap.size w' V (cs.map colB ++ [eofB st]) ∧ Below w.heap.size w w' := by
  have HN : Hid (cs.length = n) := hn
  have HC : Hid (Cols w a cs) := hc
  have HSZ : Hid (∀ p ∈ cs, p.1.size ≤ 1048576) := hsz
  have HTY : Hid (∀ p ∈ cs, 0 ≤ p.2 ∧ p.2 ≤ 255) := hty
  obtain ⟨G, hG⟩ : ∃ G, G = w.heap.size := ⟨_, rfl⟩
  have HG : Hid (G = w.heap.size) := hG
  rw [← hG]
  clear hn hc hsz hty hG
  go_enter Try.func40, Try.ntmps40
  go_wp2
  go_loopw [7, 18] (fun v i wr => ∃ (k : Nat) (V : Value), k ≤ n ∧ i = .int .i64 k ∧ V = v ∧ Msgs G wr V ((cs.take k).map colB) ∧ Below G w wr) (fun _ i _ => n - (intOf i).toNat)
  case atStart => exact ⟨0, _, Nat.zero_le _, rfl, rfl, Msgs.nil _ _, Below.refl _ _⟩
  case round =>
    obtain ⟨k, V, hk, rfl, rfl, hms, hbel⟩ := hrel
    have HM : Hid (Msgs G wr V ((cs.take k).map colB)) := hms
    have HB : Hid (Below G w wr) := hbel
    have gw : G ≤ wr.heap.size := by rw [HG.out]; exact hbel.size
    clear hms hbel
    by_cases hlt : k < n
    · have hkc : k < cs.length := by have := HN.out; omega
      obtain ⟨b, off, rfl, hcc⟩ := HC.out (by omega)
      obtain ⟨⟨s, t⟩, hp⟩ : ∃ p, p = cs[k] := ⟨_, rfl⟩
      have hcell := hcc k hkc
      rw [← hp] at hcell
      have hbl : b < G := by rw [HG.out]; exact World.block_lt_of_cell? _ _ hcell.1
      have c0 : wr.cell? ⟨b, off + k * 2, none⟩ = some (.string s) := by rw [HB.out.cell hbl]; exact hcell.1
      have c1 : wr.cell? ⟨b, off + k * 2 + 1, none⟩ = some (.int .u8 t) := by rw [HB.out.cell hbl]; exact hcell.2
      have hss : s.size ≤ 1048576 := by have := HSZ.out (s, t) (by rw [hp]; exact List.getElem_mem hkc); simpa using this
      have HP : Hid ((s, t) = cs[k]) := hp
      clear hcell hcc hp
      have HTD : Hid (t = 8 ∨ ¬ t = 8) := Classical.em _
      go_wp2_with fail
      have w0size : (wr.alloc (.cells #[.string s, .int .u8 t] 70)).heap.size = wr.heap.size + 1 := by simp
      have e0 : (wr.alloc (.cells #[.string s, .int .u8 t] 70)).cell? ⟨wr.heap.size, 0, none⟩ = some (.string s) := by
        rw [cell_of_row _ wr.heap.size 0 _ 70 (0, 0) (heap_alloc_new wr _)]; rfl
      have e1 : (wr.alloc (.cells #[.string s, .int .u8 t] 70)).cell? ⟨wr.heap.size, 1, none⟩ = some (.int .u8 t) := by
        rw [cell_of_row _ wr.heap.size 1 _ 70 (0, 0) (heap_alloc_new wr _)]; rfl
      have b0 : Below wr.heap.size wr (wr.alloc (.cells #[.string s, .int .u8 t] 70)) := (Below.refl _ _).alloc (Nat.le_refl _) _
      have B0 : Hid (Below wr.heap.size wr (wr.alloc (.cells #[.string s, .int .u8 t] 70))) := b0
      have W0 : Hid ((wr.alloc (.cells #[.string s, .int .u8 t] 70)).heap.size = wr.heap.size + 1) := w0size
      clear b0 w0size c0 c1
      generalize wr.alloc (.cells #[.string s, .int .u8 t] 70) = w0 at e0 e1 B0 W0 ⊢
      refine wp_loop_rounds 1 ?_
      rw [rounds_succ]
      have hcs := conv_def w0
      go_wp2_with fail
      all_goals
        -- the catalog
        refine (lenencBytes_any (w0.heap.size + 1) (.slice none 0 0) [] ⟨w0.heap.size, 0, none⟩ 3 3 [100, 101, 102] rfl _ (by simp) (Buf.nil _ _) (by simp) (by omega) (Bys.newF w0 _ _ [100, 101, 102] rfl) (by simp [Value.ownBlock])).mono ?_
        rintro e w1 ⟨v1, rfl, h1, b1⟩
        simp only [List.nil_append] at h1
        obtain ⟨L1, hL1⟩ : ∃ L : List Int, L = lenencB ((3 : Nat) : Int) ++ [100, 101, 102] := ⟨_, rfl⟩
        have N1 : L1.length ≤ 7 := by rw [hL1]; have := lenencB_len ((3 : Nat) : Int); simp; omega
        rw [← hL1] at h1
        have HL1 : Hid (L1 = lenencB ((3 : Nat) : Int) ++ [100, 101, 102]) := hL1
        obtain ⟨D, hD⟩ : ∃ D, D = w0.heap.size + 1 := ⟨_, rfl⟩
        rw [← hD] at h1 b1
        have HD : Hid (D = w0.heap.size + 1) := hD
        have H1 : Hid (Buf D w1 v1 L1) := h1
        have B1 : Hid (Below w0.heap.size w0 w1) := ((Below.refl _ _).alloc (Nat.le_refl _) _).trans (b1.mono (by omega))
        have g1 : D ≤ w1.heap.size := by have := b1.size; simp at this; omega
        have f0 : w1.cell? ⟨wr.heap.size, 0, none⟩ = some (.string s) := by rw [B1.out.cell (by have := W0.out; simp; omega)]; exact e0
        have f1 : w1.cell? ⟨wr.heap.size, 1, none⟩ = some (.int .u8 t) := by rw [B1.out.cell (by have := W0.out; simp; omega)]; exact e1
        clear h1 b1 hL1 hD e0 e1 hcs
        -- three empty names
        go_wp2_with (at_builtin; refine wpList_push _ rfl (.tmp 44) (.tmp 45) rfl D v1 L1 rfl (H1.out.alloc _) ⟨w1.heap.size, 0, none⟩ 3 3 [0, 0, 0] rfl rfl (Bys.new w1 _ [0, 0, 0] rfl) (by simp; omega) (by simp; omega) ?_)
        intro v2 w2 h2 b2
        obtain ⟨L2, hL2⟩ : ∃ L : List Int, L = L1 ++ [0, 0, 0] := ⟨_, rfl⟩
        rw [← hL2] at h2
        have HL2 : Hid (L2 = L1 ++ [0, 0, 0]) := hL2
        have N2 : L2.length ≤ 10 := by rw [hL2]; simp; omega
        have H2 : Hid (Buf D w2 v2 L2) := h2
        have B2 : Hid (Below D w1 w2) := ((Below.refl _ _).alloc g1 _).trans b2
        have g2 : D ≤ w2.heap.size := by have := B2.out.size; omega
        have q0 : w2.cell? ⟨wr.heap.size, 0, none⟩ = some (.string s) := by rw [B2.out.cell (by have := W0.out; have := HD.out; simp; omega)]; exact f0
        have q1 : w2.cell? ⟨wr.heap.size, 1, none⟩ = some (.int .u8 t) := by rw [B2.out.cell (by have := W0.out; have := HD.out; simp; omega)]; exact f1
        clear h2 b2 hL2 f0 f1
        -- the name
        obtain ⟨c3, w3, hcv3, hy3, b3, g3⟩ := bytes_conv s w2
        have HY3 : Hid (Bys w3 (some ⟨w2.heap.size, 0, none⟩) (nums s)) := hy3
        have B3 : Hid (Below w2.heap.size w2 w3) := b3
        clear hy3 b3
        go_wp2_with fail
        refine (lenencBytes_any D v2 L2 ⟨w2.heap.size, 0, none⟩ s.size c3 (nums s) (nums_length s) _ (by omega) (H2.out.below B3.out (Nat.le_refl _)) (by omega) (by omega) HY3.out (H2.out.ne _ (Nat.le_refl _))).mono ?_
        rintro e w4 ⟨v4, rfl, h4, b4⟩
        obtain ⟨L4, hL4⟩ : ∃ L : List Int, L = L2 ++ (lenencB s.size ++ nums s) := ⟨_, rfl⟩
        rw [← hL4] at h4
        have HL4 : Hid (L4 = L2 ++ (lenencB s.size ++ nums s)) := hL4
        have N4 : L4.length ≤ 1048600 := by rw [hL4]; have := lenencB_len s.size; simp [nums_length]; omega
        have H4 : Hid (Buf D w4 v4 L4) := h4
        have B4 : Hid (Below D w2 w4) := (B3.out.mono g2).trans b4
        have g4 : D ≤ w4.heap.size := by have := B4.out.size; omega
        have r0 : w4.cell? ⟨wr.heap.size, 0, none⟩ = some (.string s) := by rw [B4.out.cell (by have := W0.out; have := HD.out; simp; omega)]; exact q0
        have r1 : w4.cell? ⟨wr.heap.size, 1, none⟩ = some (.int .u8 t) := by rw [B4.out.cell (by have := W0.out; have := HD.out; simp; omega)]; exact q1
        clear h4 b4 hL4 q0 q1 hcv3
        -- the name once more
        obtain ⟨c5, w5, hcv5, hy5, b5, g5⟩ := bytes_conv s w4
        have HY5 : Hid (Bys w5 (some ⟨w4.heap.size, 0, none⟩) (nums s)) := hy5
        have B5 : Hid (Below w4.heap.size w4 w5) := b5
        clear hy5 b5
        go_wp2_with fail
        refine (lenencBytes_any D v4 L4 ⟨w4.heap.size, 0, none⟩ s.size c5 (nums s) (nums_length s) _ (by omega) (H4.out.below B5.out (Nat.le_refl _)) (by omega) (by omega) HY5.out (H4.out.ne _ (Nat.le_refl _))).mono ?_
        rintro e w6 ⟨v6, rfl, h6, b6⟩
        obtain ⟨L6, hL6⟩ : ∃ L : List Int, L = L4 ++ (lenencB s.size ++ nums s) := ⟨_, rfl⟩
        rw [← hL6] at h6
        have HL6 : Hid (L6 = L4 ++ (lenencB s.size ++ nums s)) := hL6
        have N6 : L6.length ≤ 2097300 := by rw [hL6]; have := lenencB_len s.size; simp [nums_length]; omega
        have H6 : Hid (Buf D w6 v6 L6) := h6
        have B6 : Hid (Below D w4 w6) := (B5.out.mono g4).trans b6
        have g6 : D ≤ w6.heap.size := by have := B6.out.size; omega
        have t1 : w6.cell? ⟨wr.heap.size, 1, none⟩ = some (.int .u8 t) := by rw [B6.out.cell (by have := W0.out; have := HD.out; simp; omega)]; exact r1
        clear h6 b6 hL6 r0 r1 hcv5
        -- the fixed fields' length
        go_wp2_with fail
        refine (lenenc_any D v6 L6 12 _ g6 H6.out (by omega) (by omega) (by omega)).mono ?_
        rintro e w7 ⟨v7, rfl, h7, b7, -⟩
        obtain ⟨L7, hL7⟩ : ∃ L : List Int, L = L6 ++ lenencB 12 := ⟨_, rfl⟩
        rw [← hL7] at h7
        have HL7 : Hid (L7 = L6 ++ lenencB 12) := hL7
        have N7 : L7.length ≤ 2097310 := by rw [hL7]; have := lenencB_len 12; simp; omega
        have H7 : Hid (Buf D w7 v7 L7) := h7
        have B7 : Hid (Below D w6 w7) := b7
        have g7 : D ≤ w7.heap.size := by have := B7.out.size; omega
        clear h7 b7 hL7
        -- the charset
        go_wp2_with fail
        refine (app16_any D v7 L7 _ _ g7 H7.out (by omega)).mono ?_
        rintro e w8 ⟨v8, rfl, h8, b8⟩
        obtain ⟨L8, hL8⟩ : ∃ L : List Int, L = L7 ++ le2 (if t = 8 then 63 else 45) := ⟨_, rfl⟩
        have h8' : Buf D w8 v8 L8 := by
          rw [hL8]
          first
            | (have h : (t == 8) = true := by assumption
               have h' : t = 8 := by simpa using h
               rw [if_pos h']; exact h8)
            | (have h : (t == 8) = false := by assumption
               have h' : ¬ t = 8 := by simpa using h
               rw [if_neg h']; exact h8)
        have HL8 : Hid (L8 = L7 ++ le2 (if t = 8 then 63 else 45)) := hL8
        have N8 : L8.length ≤ 2097312 := by rw [hL8]; simp [le2_length]; omega
        have H8 : Hid (Buf D w8 v8 L8) := h8'
        have B8 : Hid (Below D w7 w8) := b8
        have g8 : D ≤ w8.heap.size := by have := B8.out.size; omega
        clear h8 h8' b8 hL8
        -- the length
        go_wp2_with fail
        refine (app32_any D v8 L8 0 _ g8 H8.out (by omega)).mono ?_
        rintro e w9 ⟨v9, rfl, h9, b9⟩
        obtain ⟨L9, hL9⟩ : ∃ L : List Int, L = L8 ++ le4 0 := ⟨_, rfl⟩
        rw [← hL9] at h9
        have HL9 : Hid (L9 = L8 ++ le4 0) := hL9
        have N9 : L9.length ≤ 2097316 := by rw [hL9]; simp [le4_length]; omega
        have H9 : Hid (Buf D w9 v9 L9) := h9
        have B9 : Hid (Below D w6 w9) := (B7.out.trans B8.out).trans b9
        have g9 : D ≤ w9.heap.size := by have := b9.size; omega
        have y1 : w9.cell? ⟨wr.heap.size, 1, none⟩ = some (.int .u8 t) := by rw [B9.out.cell (by have := W0.out; have := HD.out; simp; omega)]; exact t1
        clear h9 b9 hL9 t1
        -- the type
        go_wp2_with (at_builtin; refine wpList_push _ rfl (.tmp 65) (.tmp 68) rfl D v9 L9 rfl (H9.out.alloc _) ⟨w9.heap.size, 0, none⟩ 1 1 [t] rfl rfl (Bys.new w9 _ [t] rfl) (by simp; omega) (by simp; omega) ?_)
        intro v10 w10 h10 b10
        obtain ⟨L10, hL10⟩ : ∃ L : List Int, L = L9 ++ [t] := ⟨_, rfl⟩
        rw [← hL10] at h10
        have HL10 : Hid (L10 = L9 ++ [t]) := hL10
        have N10 : L10.length ≤ 2097317 := by rw [hL10]; simp; omega
        have H10 : Hid (Buf D w10 v10 L10) := h10
        have B10 : Hid (Below D w9 w10) := ((Below.refl _ _).alloc g9 _).trans b10
        have g10 : D ≤ w10.heap.size := by have := B10.out.size; omega
        clear h10 b10 hL10 y1
        -- the flags
        go_wp2_with fail
        refine (app16_any D v10 L10 _ _ g10 H10.out (by omega)).mono ?_
        rintro e w11 ⟨v11, rfl, h11, b11⟩
        obtain ⟨L11, hL11⟩ : ∃ L : List Int, L = L10 ++ le2 (if t = 8 then 161 else 1) := ⟨_, rfl⟩
        have h11' : Buf D w11 v11 L11 := by
          rw [hL11]
          first
            | (have h : (t == 8) = true := by assumption
               have h' : t = 8 := by simpa using h
               rw [if_pos h']; exact h11)
            | (have h : (t == 8) = false := by assumption
               have h' : ¬ t = 8 := by simpa using h
               rw [if_neg h']; exact h11)
        have HL11 : Hid (L11 = L10 ++ le2 (if t = 8 then 161 else 1)) := hL11
        have N11 : L11.length ≤ 2097320 := by rw [hL11]; simp [le2_length]; omega
        have H11 : Hid (Buf D w11 v11 L11) := h11'
        have B11 : Hid (Below D w10 w11) := b11
        have g11 : D ≤ w11.heap.size := by have := B11.out.size; omega
        clear h11 h11' b11 hL11
        -- three zeros
        go_wp2_with (at_builtin; refine wpList_push _ rfl (.tmp 73) (.tmp 74) rfl D v11 L11 rfl (H11.out.alloc _) ⟨w11.heap.size, 0, none⟩ 3 3 [0, 0, 0] rfl rfl (Bys.new w11 _ [0, 0, 0] rfl) (by simp; omega) (by simp; omega) ?_)
        intro v12 w12 h12 b12
        have e12 : L11 ++ [0, 0, 0] = colB (s, t) := by
          rw [HL11.out, HL10.out, HL9.out, HL8.out, HL7.out, HL6.out, HL4.out, HL2.out, HL1.out]
          simp [colB]
        rw [e12] at h12
        have B12 : Hid (Below wr.heap.size wr w12) := by
          have d1 := HD.out
          have d0 := W0.out
          have x1 : Below wr.heap.size wr w1 := B0.out.trans (B1.out.mono (by omega))
          have x2 : Below D w1 w12 := (((((((B2.out.trans B4.out).trans B6.out).trans B9.out).trans B10.out).trans B11.out).alloc g11 _).trans b12)
          exact x1.trans (x2.mono (by omega))
        have H12 : Hid (Buf G w12 v12 (colB (s, t))) := h12.base (by have := HD.out; have := W0.out; omega)
        have HM12 : Hid (Msgs G w12 V ((cs.take k).map colB)) := HM.out.below B12.out
        have g12 : G ≤ w12.heap.size := by have := B12.out.size; omega
        obtain ⟨a12, c12, hv12, -⟩ := h12.form
        subst hv12
        clear h12 b12 e12
        -- the message
        have hml : ((cs.take k).map colB).length + 1 ≤ 1000000 := by simp; omega
        go_wp2_with (at_builtin; refine wpList_msgs _ rfl (.tmp 76) (.tmp 78) rfl G V ((cs.take k).map colB) rfl (HM12.out.below ((Below.refl _ _).alloc (Nat.le_refl _) _)) ⟨w12.heap.size, 0, none⟩ 1 1 [colB (s, t)] rfl rfl (one_msg H12.out) hml (by simp; omega) ?_)
        intro V2 w13 h13 b13
        have H13 : Hid (Msgs G w13 V2 ((cs.take (k + 1)).map colB)) := by
          show Msgs G w13 V2 ((cs.take (k + 1)).map colB)
          have e : (cs.take (k + 1)).map colB = (cs.take k).map colB ++ [colB (s, t)] := by
            rw [List.take_succ_eq_append_getElem hkc, List.map_append, ← HP.out]
            rfl
          rw [e]
          simpa using h13
        have B13 : Hid (Below G w w13) := (HB.out.trans (B12.out.mono gw)).trans (((Below.refl _ _).alloc g12 _).trans b13)
        clear h13 b13
        go_wp2
        go_roundw
        case rel => exact ⟨k + 1, _, by omega, by go_num, rfl, H13.out, B13.out⟩
        case measure => simp [intOf]; omega
    · obtain rfl : k = n := by omega
      have e1 : cs.take k = cs := List.take_of_length_le (by have := HN.out; omega)
      rw [e1] at HM
      clear e1
      go_wp2_with fail
      refine (eofPacket_any st wr.heap.size _ (Nat.le_refl _)).mono ?_
      rintro e w1 ⟨v1, rfl, h1, b1⟩
      have H1 : Hid (Buf G w1 v1 (eofB st)) := h1.base gw
      have HM1 : Hid (Msgs G w1 V (cs.map colB)) := HM.out.below b1
      have B1 : Hid (Below G w w1) := HB.out.trans (b1.mono gw)
      have g1 : G ≤ w1.heap.size := by have := b1.size; omega
      obtain ⟨a1, c1, hv1, -⟩ := h1.form
      subst hv1
      clear h1 b1
      have hml : (cs.map colB).length + 1 ≤ 1000000 := by have := HN.out; simp; omega
      go_wp2_with (at_builtin; refine wpList_msgs _ rfl (.tmp 81) (.tmp 84) rfl G V (cs.map colB) rfl (HM1.out.below ((Below.refl _ _).alloc (Nat.le_refl _) _)) ⟨w1.heap.size, 0, none⟩ 1 1 [eofB st] rfl rfl (one_msg H1.out) hml (by simp; omega) ?_)
      intro V2 w2 h2 b2
      have H2 : Hid (Msgs G w2 V2 (cs.map colB ++ [eofB st])) := h2
      have B2 : Hid (Below G w w2) := B1.out.trans (((Below.refl _ _).alloc g1 _).trans b2)
      clear h2 b2
      go_wp2
      go_ret
      exact ⟨_, rfl, H2.out, B2.out⟩
end Go.Proofs.Qxb6615469a
