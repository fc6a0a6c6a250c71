import Derived.Test.Qxb6615469aDefOK
import Derived.Test.Qxb6615469aS4Walks
namespace Go.Proofs.Qxb6615469a
open Go.RowKit
set_option linter.unusedVariables false

set_option maxHeartbeats 1000000 in
theorem guard33_any (id st : Int) (a a2 : Option Addr) (n c n2 c2 : Nat) (ss : List ByteArray) (hl : ss.length = n) (hm : n ≤ maxLen) (hm2 : n2 ≤ maxLen) (hs : ∀ s ∈ ss, s.size ≤ maxLen) (w : World) (h : Strs w a ss) :
    Calls Try.prog 33 #[.int .u32 id, .slice a n c, .slice a2 n2 c2, .int .u16 st] w fun e w' => IsBool e ∧ w = w' := by
  unfold maxLen at hm hm2
  have HL : Hid (ss.length = n) := hl
  have HS : Hid (∀ s ∈ ss, s.size ≤ maxLen) := hs
  have H : Hid (Strs w a ss) := h
  clear hl hs h
  by_cases hbig : 1048576 < n
  · go_enter Try.func33, Try.ntmps33
    go_wp2
    go_ret
    exact ⟨IsBool.mk _, rfl⟩
  have hsm : n ≤ 1048576 := by omega
  clear hbig
  go_enter Try.func33, Try.ntmps33
  go_wp2
  go_loop [9, 10] (fun t i => ∃ (k : Nat) (z : Int), k ≤ n ∧ i = .int .i64 k ∧ t = .int .i64 z ∧ 0 ≤ z ∧ z ≤ 1048576) (fun _ i => n - (intOf i).toNat)
  case atStart => exact ⟨0, _, Nat.zero_le _, rfl, rfl, by omega, by omega⟩
  case round =>
    obtain ⟨k, z, hk, rfl, rfl, hz0, hz1⟩ := hrel
    by_cases hlt : k < n
    · obtain ⟨b, off, rfl, hc⟩ := H.out (by have := HL.out; omega)
      obtain ⟨s, hss⟩ : ∃ s, s = ss.getD k ByteArray.empty := ⟨_, rfl⟩
      have g1 : w.cell? ⟨b, off + k, none⟩ = some (.string s) := by rw [hss]; exact hc k (by have := HL.out; omega)
      have hsl : s.size ≤ 9223372036854775807 := by
        have hk' : k < ss.length := by have := HL.out; omega
        have := HS.out s (by rw [hss]; simp [hk'])
        unfold maxLen at this
        omega
      clear hss hc
      by_cases hs1 : 1048576 < s.size
      · go_wp2
        go_ret
        exact ⟨IsBool.mk _, rfl⟩
      · have hs2 : s.size ≤ 1048576 := by omega
        clear hs1
        by_cases hs3 : 1048576 < z + s.size
        · go_wp2
          go_ret
          exact ⟨IsBool.mk _, rfl⟩
        · have hs4 : z + s.size ≤ 1048576 := by omega
          clear hs3
          go_wp2
          go_round
          case rel => exact ⟨k + 1, _, by omega, by go_num, rfl, by omega, by omega⟩
          case measure => simp [intOf]; omega
    · by_cases h2 : 1048576 < n2
      · go_wp2
        all_goals (go_ret; exact ⟨IsBool.mk _, rfl⟩)
      · have h3 : n2 ≤ 1048576 := by omega
        clear h2
        go_wp2
        all_goals (go_ret; exact ⟨IsBool.mk _, rfl⟩)


/-- The first byte of each message, and that none but the last begins as an EOF packet. -/
theorem stmtB_first (id st : Int) (cs : List (ByteArray × Int)) (j : Nat) (hj : j < (stmtB id st cs).length) (hne : j ≠ cs.length + 1) :
    ∃ l, (stmtB id st cs)[j]? = some l ∧ 0 < l.length ∧ (l.getD 0 0 == 254) = false := by
  match j, hj, hne with
  | 0, _, _ => exact ⟨_, stmtB_head id st cs, by rw [hdrB_len]; omega, rfl⟩
  | i + 1, hj, hne =>
    have hi : i < cs.length := by
      rw [stmtB_len] at hj
      split at hj <;> omega
    exact ⟨_, stmtB_col id st cs i hi, colB_pos _, by
      have e : (colB cs[i]).getD 0 0 = 3 := by
        rw [show cs[i] = (cs[i].1, cs[i].2) from rfl, colB_parts]
        rfl
      rw [e]
      rfl⟩

set_option maxHeartbeats 2000000 in
theorem walk9_main (id st : Int) (a a2 : Option Addr) (n c c2 : Nat) (ss : List ByteArray) (ts : List Int) (hl : ss.length = n) (hl2 : ts.length = n) (hm : n ≤ 65536) (hsz : ∀ i, i < n → (ss.getD i ByteArray.empty).size ≤ 1048576)
    (hty : ∀ t ∈ ts, 0 ≤ t ∧ t ≤ 255) (hsm : ∀ s ∈ ss, s.size ≤ maxLen) (w : World) (h : Strs w a ss) (h2 : Bys w a2 ts) :
    Calls Try.prog 9 #[.int .u32 id, .slice a n c, .slice a2 n c2, .int .u16 st] w fun e w' => e = .returned (.bool true) ∧ Below w.heap.size w w' := by
  obtain ⟨cs, hcs⟩ : ∃ cs, cs = ss.zip ts := ⟨_, rfl⟩
  have hcl : cs.length = n := by rw [hcs]; simp; omega
  have hP1 : ∀ p ∈ cs, p.1.size ≤ 1048576 := by
    intro p hp
    obtain ⟨i, hi, rfl⟩ := List.getElem_of_mem hp
    have := hsz i (by omega)
    have h1 : i < ss.length := by omega
    simp only [hcs, List.getElem_zip]
    simpa [h1] using this
  have hP2 : ∀ p ∈ cs, 0 ≤ p.2 ∧ p.2 ≤ 255 := by
    intro p hp
    rw [hcs] at hp
    exact hty p.2 (List.of_mem_zip (a := p.1) (b := p.2) hp).2
  have HCS : Hid (cs = ss.zip ts) := hcs
  have HCL : Hid (cs.length = n) := hcl
  have HP1 : Hid (∀ p ∈ cs, p.1.size ≤ 1048576) := hP1
  have HP2 : Hid (∀ p ∈ cs, 0 ≤ p.2 ∧ p.2 ≤ 255) := hP2
  have HL : Hid (ss.length = n) := hl
  have HL2 : Hid (ts.length = n) := hl2
  have H : Hid (Strs w a ss) := h
  have H2 : Hid (Bys w a2 ts) := h2
  have HSM : Hid (∀ s ∈ ss, s.size ≤ maxLen) := hsm
  obtain ⟨N, hN⟩ : ∃ N, N = if n = 0 then 1 else n + 2 := ⟨_, rfl⟩
  have HN : Hid (N = if n = 0 then 1 else n + 2) := hN
  have nN : N ≤ n + 2 := by rw [hN]; split <;> omega
  have nN1 : 1 ≤ N := by rw [hN]; split <;> omega
  have hml : n ≤ maxLen := by unfold maxLen; omega
  obtain ⟨G, hG⟩ : ∃ G, G = w.heap.size := ⟨_, rfl⟩
  have HG : Hid (G = w.heap.size) := hG
  rw [← hG]
  clear hcs hcl hP1 hP2 hl hl2 h h2 hsm hN hG hsz hty
  go_enter Try.func9, Try.ntmps9
  go_wp2_with fail
  refine (guard33_any id st a a2 n c n c2 ss HL.out hml hml HSM.out _ H.out).mono ?_
  rintro e w' ⟨⟨r, rfl⟩, rfl⟩
  cases r with
  | false =>
    go_wp2
    go_ret
    exact ⟨rfl, Below.refl _ _⟩
  | true =>
    go_wp2_with fail
    refine (tooBig_any a a2 n c n c2 ss HL.out hml hml HSM.out _ H.out).mono ?_
    rintro e w' ⟨⟨r, rfl, -⟩, rfl⟩
    cases r with
    | true =>
      go_wp2
      go_ret
      exact ⟨rfl, Below.refl _ _⟩
    | false =>
      go_wp2_with fail
      refine (columns_any a a2 n c c2 ss ts HL.out HL2.out hm _ H.out H2.out).mono ?_
      rintro e w1 ⟨rfl, hc1, b1⟩
      rw [← HG.out] at hc1 b1 ⊢
      rw [← HCS.out] at hc1
      have C1 : Hid (Cols w1 (some ⟨G, 0, none⟩) cs) := hc1
      have B1 : Hid (Below G w w1) := b1
      have g1 : G ≤ w1.heap.size := by rw [HG.out]; exact b1.size
      clear hc1 b1
      go_wp2_with fail
      refine (stmt_any id st cs (some ⟨G, 0, none⟩) n n HCL.out hm HP1.out HP2.out _ C1.out).mono ?_
      rintro e w2 ⟨V2, rfl, h2, b2⟩
      have M2 : Hid (Msgs w1.heap.size w2 V2 (stmtB id st cs)) := h2
      have B2 : Hid (Below G w w2) := B1.out.trans (b2.mono g1)
      have g2 : G ≤ w2.heap.size := by have := b2.size; omega
      clear h2 b2
      have l2 : (stmtB id st cs).length = N := by rw [stmtB_len, HCL.out]; exact HN.out.symm
      obtain ⟨p2, c2', hV2, hcap2, hlt2, hget2⟩ := M2.out.get (by omega)
      rw [l2] at hV2 hcap2
      subst hV2
      have GET : Hid (∀ i l, (stmtB id st cs)[i]? = some l → 0 < l.length → ∃ p o c', w2.cell? ⟨p2, i, none⟩ = some (.slice (some ⟨p, o, none⟩) l.length c') ∧ Bys w2 (some ⟨p, o, none⟩) l ∧ l.length ≤ c') := hget2
      have HL2' : Hid ((stmtB id st cs).length = N) := l2
      clear l2 hget2
      obtain ⟨G2, hG2⟩ : ∃ G2, G2 = w2.heap.size := ⟨_, rfl⟩
      have HG2 : Hid (G2 = w2.heap.size) := hG2
      clear hG2
      go_wp2_with fail
      refine (msgCount_at n N hm HN.out _).mono ?_
      rintro e w' ⟨rfl, rfl⟩
      go_wp2_with fail
      go_loopw [12] (fun i wr => ∃ j : Nat, j ≤ N ∧ i = .int .i64 j ∧ Hid (Below G2 w2 wr)) (fun i _ => N - (intOf i).toNat)
      case atStart => exact ⟨0, Nat.zero_le _, rfl, Below.refl _ _⟩
      case round =>
        obtain ⟨j, hj, rfl, HBE⟩ := hrel
        have gr : G2 ≤ wr.heap.size := by rw [HG2.out]; exact HBE.out.size
        by_cases hlt : j < N
        · have j0 : (0 : Int) ≤ (j : Int) := by omega
          have j1 : (j : Int) < (N : Int) := by omega
          by_cases hlast : j = n + 1
          · have hn0 : 0 < n := by
              have := HN.out
              by_cases h : n = 0
              · rw [if_pos h] at this; omega
              · omega
            obtain ⟨q5, o5, d5, x5, y5, z5⟩ := GET.out (n + 1) _ (by rw [← HCL.out]; exact stmtB_last id st cs (by rw [HCL.out]; exact hn0)) (by rw [eofB_len]; omega)
            rw [eofB_len] at x5 z5
            have hp2 : p2 < G2 := by rw [HG2.out]; exact hlt2
            have hq5 : q5 < G2 := by rw [HG2.out]; simpa using Bys.lt y5 (by rw [eofB_len]; omega)
            have a5 : wr.cell? ⟨p2, j, none⟩ = some (.slice (some ⟨q5, o5, none⟩) 5 d5) := by rw [HBE.out.cell hp2, hlast]; exact x5
            have a6 : wr.cell? ⟨q5, o5, none⟩ = some (.int .u8 254) := by
              rw [HBE.out.cell hq5]
              have := y5.at 0 (by rw [eofB_len]; omega) 254 rfl
              simpa using this
            have A6 : Hid (wr.cell? ⟨q5, o5, none⟩ = some (.int .u8 254)) := a6
            have hL1 : (1 : Int) ≤ (d5 : Int) := by omega
            have hneq : ¬ p2 = wr.heap.size := by omega
            have hfresh : p2 < wr.heap.size := by omega
            have hjn : ((j : Int) == (n : Int) + 1) = true := by simp; omega
            have hn1 : (0 : Int) < (n : Int) := by omega
            clear x5 y5 z5 a6 hlast
            go_wp2
            go_region
            go_wp2_with fail
            refine (isEOF_yes 0 5 q5 o5 1 d5 _ (by omega) (by omega) ?_).mono ?_
            · rw [World.cell?_drew]
              exact Lib.cell?_alloc_some _ A6.out
            rintro e w4 ⟨rfl, o4, rfl⟩
            generalize hW4 : World.alloc (World.drew _) o4 = w4
            have HB4 : Hid (Below G2 w2 w4) := by
              rw [← hW4]
              exact ((HBE.out.alloc gr _).drew).alloc (by simp; omega) _
            clear hW4 A6 a5
            go_wp2
            all_goals
              go_roundw
              case rel => exact ⟨j + 1, by omega, by go_num, HB4⟩
              case measure => simp [intOf]; omega
          · obtain ⟨l, hl1, hl2, hl3⟩ := stmtB_first id st cs j (by rw [HL2'.out]; exact hlt) (by rw [HCL.out]; exact hlast)
            obtain ⟨q5, o5, d5, x5, y5, z5⟩ := GET.out j l hl1 hl2
            obtain ⟨L, hL⟩ : ∃ L, L = l.length := ⟨_, rfl⟩
            obtain ⟨y, hy⟩ : ∃ y, y = l.getD 0 0 := ⟨_, rfl⟩
            rw [← hy] at hl3
            rw [← hL] at x5 hl2 z5
            have hp2 : p2 < G2 := by rw [HG2.out]; exact hlt2
            have hq5 : q5 < G2 := by rw [HG2.out]; simpa using Bys.lt y5 (by omega)
            have a5 : wr.cell? ⟨p2, j, none⟩ = some (.slice (some ⟨q5, o5, none⟩) L d5) := by rw [HBE.out.cell hp2]; exact x5
            have a6 : wr.cell? ⟨q5, o5, none⟩ = some (.int .u8 y) := by
              rw [HBE.out.cell hq5, hy]
              have := y5.at 0 (by omega) _ rfl
              simpa using this
            have A6 : Hid (wr.cell? ⟨q5, o5, none⟩ = some (.int .u8 y)) := a6
            have hL0 : ((L : Int) == 0) = false := by simp; omega
            have hL1 : (1 : Int) ≤ (d5 : Int) := by omega
            have hneq : ¬ p2 = wr.heap.size := by omega
            have hfresh : p2 < wr.heap.size := by omega
            have hjn : ((j : Int) == (n : Int) + 1) = false := by simp; omega
            clear hL hy x5 y5 z5 hl1 hl2 a6 hlast
            go_wp2
            go_region
            go_wp2_with fail
            refine (isEOF_no 0 L q5 o5 1 d5 y _ (by omega) hl3 ?_).mono ?_
            · rw [World.cell?_drew]
              exact Lib.cell?_alloc_some _ A6.out
            rintro e w4 ⟨rfl, o4, rfl⟩
            generalize hW4 : World.alloc (World.drew _) o4 = w4
            have HB4 : Hid (Below G2 w2 w4) := by
              rw [← hW4]
              exact ((HBE.out.alloc gr _).drew).alloc (by simp; omega) _
            clear hW4 A6 a5
            go_wp2
            all_goals
              go_roundw
              case rel => exact ⟨j + 1, by omega, by go_num, HB4⟩
              case measure => simp [intOf]; omega
        · obtain ⟨wx, hwx⟩ : ∃ wx, wx = wr := ⟨_, rfl⟩
          have HBX : Hid (Below G2 w2 wx) := by rw [hwx]; exact HBE
          have HBW : Hid (Below G w wx) := B2.out.trans (HBX.out.mono (by have := HG2.out; omega))
          rw [← hwx]
          clear hwx HBE gr
          go_wp2_with fail
          go_loopw [14] (fun i wr => ∃ j m : Nat, j ≤ n ∧ i = .int .i64 j ∧ Hid (wr = wx.drewN m)) (fun i _ => n - (intOf i).toNat)
          case atStart => exact ⟨0, 0, Nat.zero_le _, rfl, rfl⟩
          case round =>
            obtain ⟨i, m, hi, rfl, HW⟩ := hrel
            by_cases hlt2' : i < n
            · have hic : i < cs.length := by have := HCL.out; omega
              have hNn : n + 2 ≤ N := by have := HN.out; rw [if_neg (by omega)] at this; omega
              obtain ⟨⟨s, t⟩, hp⟩ : ∃ p, p = cs[i] := ⟨_, rfl⟩
              have hp' := hp
              simp only [HCS.out, List.getElem_zip, Prod.mk.injEq] at hp'
              obtain ⟨hs, ht⟩ := hp'
              obtain ⟨q5, o5, d5, x5, y5, z5⟩ := GET.out (i + 1) _ (stmtB_col id st cs i hic) (colB_pos _)
              rw [← hp] at x5 y5 z5
              have hsz : s.size ≤ 1048576 := by have := HP1.out (s, t) (by rw [hp]; exact List.getElem_mem hic); simpa using this
              have htt : 0 ≤ t ∧ t ≤ 255 := by have := HP2.out (s, t) (by rw [hp]; exact List.getElem_mem hic); simpa using this
              obtain ⟨b1, f1, rfl, e1⟩ := H.out (by have := HL.out; omega)
              obtain ⟨b2, f2, rfl, e2⟩ := H2.out (by have := HL2.out; omega)
              have k1 := e1 i (by have := HL.out; omega)
              have k2 := e2 i (by have := HL2.out; omega)
              have hi1 : i < ss.length := by have := HL.out; omega
              have hi2 : i < ts.length := by have := HL2.out; omega
              have lb1 : b1 < G := by rw [HG.out]; exact World.block_lt_of_cell? _ _ k1
              have lb2 : b2 < G := by rw [HG.out]; exact World.block_lt_of_cell? _ _ k2
              have hp2 : p2 < G2 := by rw [HG2.out]; exact hlt2
              have a1 : wr.cell? ⟨b1, f1 + i, none⟩ = some (.string s) := by
                rw [HW.out, World.cell?_drewN, HBW.out.cell lb1, k1, hs]; simp [hi1]
              have a2' : wr.cell? ⟨b2, f2 + i, none⟩ = some (.int .u8 t) := by
                rw [HW.out, World.cell?_drewN, HBW.out.cell lb2, k2, ht]; simp [hi2]
              obtain ⟨L, hL⟩ : ∃ L, L = (colB (s, t)).length := ⟨_, rfl⟩
              rw [← hL] at x5 z5
              have a3 : wr.cell? ⟨p2, 1 + i, none⟩ = some (.slice (some ⟨q5, o5, none⟩) L d5) := by
                rw [HW.out, World.cell?_drewN, HBX.out.cell hp2, Nat.add_comm 1 i]; exact x5
              have Y5 : Hid (Bys wr (some ⟨q5, o5, none⟩) (colB (s, t))) := by
                rw [HW.out]
                exact Bys.drewN (Bys.below y5 (by rw [← HG2.out]; exact HBX.out)) m
              have HLL : Hid ((colB (s, t)).length = L) := hL.symm
              have i0 : (0 : Int) ≤ 1 + (i : Int) := by omega
              have i1 : 1 + (i : Int) < (N : Int) := by omega
              have i2 : (0 : Int) ≤ (i : Int) := by omega
              have i3 : (i : Int) < (n : Int) := by omega
              have wi : IntKind.i64.wrap (1 + (i : Int)) = 1 + (i : Int) := by rw [IntKind.wrap_i64]; omega
              have ti : (1 + (i : Int)).toNat = 1 + i := by omega
              clear hs ht hp x5 y5 k1 k2 e1 e2 hL hi1 hi2 hic
              go_wp2_with fail
              go_quiet ((go_at_call 34; exact Calls.quiet_of_same ((defOK_any q5 o5 L d5 s t _ HLL.out z5 hsz htt.1 htt.2 (Bys.drewN Y5.out _)).mono fun e w' h => ⟨h.1, h.2.symm⟩)))
              go_wp2
              go_roundw
              case rel => exact ⟨i + 1, m + nq, by omega, by go_num, by rw [HW.out]; simp [Hid]⟩
              case measure => simp [intOf]; omega
            · have B5 : Hid (Below G w wr) := by rw [HW.out]; exact below_drewN HBW.out _
              clear HW
              go_wp2
              go_ret
              exact ⟨rfl, B5.out⟩

set_option maxHeartbeats 1000000 in
theorem walk9_other (id st : Int) (a a2 : Option Addr) (n c n2 c2 : Nat) (ss : List ByteArray) (hl : ss.length = n) (hm : n ≤ maxLen) (hm2 : n2 ≤ maxLen) (hsm : ∀ s ∈ ss, s.size ≤ maxLen) (w : World) (h : Strs w a ss)
    (ho : (n ≤ 65536 ∧ n2 ≤ 65536 ∧ ∀ i, i < n → (ss.getD i ByteArray.empty).size ≤ 1048576) → n ≠ n2) :
    Calls Try.prog 9 #[.int .u32 id, .slice a n c, .slice a2 n2 c2, .int .u16 st] w fun e w' => e = .returned (.bool true) ∧ Below w.heap.size w w' := by
  have HL : Hid (ss.length = n) := hl
  have H : Hid (Strs w a ss) := h
  have HSM : Hid (∀ s ∈ ss, s.size ≤ maxLen) := hsm
  have HO : Hid ((n ≤ 65536 ∧ n2 ≤ 65536 ∧ ∀ i, i < n → (ss.getD i ByteArray.empty).size ≤ 1048576) → n ≠ n2) := ho
  have HM : Hid (n ≤ maxLen) := hm
  have HM2 : Hid (n2 ≤ maxLen) := hm2
  clear hl h hsm ho hm hm2
  go_enter Try.func9, Try.ntmps9
  go_wp2_with fail
  refine (guard33_any id st a a2 n c n2 c2 ss HL.out HM.out HM2.out HSM.out _ H.out).mono ?_
  rintro e w' ⟨⟨r, rfl⟩, rfl⟩
  cases r with
  | false =>
    go_wp2
    go_ret
    exact ⟨rfl, Below.refl _ _⟩
  | true =>
    go_wp2_with fail
    refine (tooBig_any a a2 n c n2 c2 ss HL.out HM.out HM2.out HSM.out _ H.out).mono ?_
    rintro e w' ⟨⟨r, rfl, hr⟩, rfl⟩
    cases r with
    | true =>
      go_wp2
      go_ret
      exact ⟨rfl, Below.refl _ _⟩
    | false =>
      have hno := HO.out (hr rfl)
      have hb := (hr rfl).1
      have hb2 := (hr rfl).2.1
      clear hr
      have hne2 : ((n : Int) != (n2 : Int)) = true := by simp; omega
      clear hno
      go_wp2
      all_goals (go_ret; exact ⟨rfl, Below.refl _ _⟩)

theorem walk9_any (id st : Int) (a a2 : Option Addr) (n c n2 c2 : Nat) (ss : List ByteArray) (ts : List Int) (hl : ss.length = n) (hl2 : ts.length = n2) (hm : n ≤ maxLen) (hm2 : n2 ≤ maxLen) (hsm : ∀ s ∈ ss, s.size ≤ maxLen)
    (hty : ∀ t ∈ ts, 0 ≤ t ∧ t ≤ 255) (w : World) (h : Strs w a ss) (h2 : Bys w a2 ts) :
    Calls Try.prog 9 #[.int .u32 id, .slice a n c, .slice a2 n2 c2, .int .u16 st] w fun e w' => e = .returned (.bool true) ∧ Below w.heap.size w w' := by
  by_cases hP : (n ≤ 65536 ∧ n2 ≤ 65536 ∧ ∀ i, i < n → (ss.getD i ByteArray.empty).size ≤ 1048576) ∧ n = n2
  · obtain ⟨⟨p1, p2, p3⟩, rfl⟩ := hP
    exact walk9_main id st a a2 n c c2 ss ts hl hl2 p1 p3 hty hsm w h h2
  · refine walk9_other id st a a2 n c n2 c2 ss hl hm hm2 hsm w h ?_
    intro hp hne
    exact hP ⟨hp, hne⟩
end Go.Proofs.Qxb6615469a
