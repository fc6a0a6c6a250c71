import Derived.Test.Qxb6615469aColumns
namespace Go.Proofs.Qxb6615469a
open Go.RowKit
set_option linter.unusedVariables false

theorem Msgs.get {B : Nat} {w : World} {V : Value} {ls : List (List Int)} (h : Msgs B w V ls) (hp : 0 < ls.length) :
    ∃ g c, V = .slice (some ⟨g, 0, none⟩) ls.length c ∧ ls.length ≤ c ∧ g < w.heap.size ∧ ∀ i l, ls[i]? = some l → 0 < l.length → ∃ p o c', w.cell? ⟨g, i, none⟩ = some (.slice (some ⟨p, o, none⟩) l.length c') ∧ Bys w (some ⟨p, o, none⟩) l ∧ l.length ≤ c' := by
  obtain ⟨vs, ho, hv⟩ := h
  rcases ho.2 with ⟨rfl, hn⟩ | ⟨g, cap, cur, hV, hb, hg, hnc, hcm, hcs, htk⟩
  · omega
  · subst hV
    refine ⟨g, cap, rfl, hnc, (ho.lt g rfl).2, fun i l hl hpl => ?_⟩
    obtain ⟨hi, e⟩ := List.getElem?_eq_some_iff.1 hl
    obtain ⟨v, ev, hbuf⟩ := hv i hi
    rw [e] at hbuf
    obtain ⟨a, c, rfl, hy, hlc, _⟩ := hbuf.form
    obtain ⟨p, o, rfl, _⟩ := hy hpl
    exact ⟨p, o, c, by rw [ho.cellAt i (by omega)]; exact ev, hy, hlc⟩

theorem stmtB_len (id st : Int) (cs : List (ByteArray × Int)) : (stmtB id st cs).length = if cs.length = 0 then 1 else cs.length + 2 := by
  unfold stmtB
  split <;> simp
theorem stmtB_head (id st : Int) (cs : List (ByteArray × Int)) : (stmtB id st cs)[0]? = some (hdrB id cs.length) := by
  unfold stmtB
  split
  · rename_i h; rw [h]; rfl
  · rfl
theorem stmtB_last (id st : Int) (cs : List (ByteArray × Int)) (h : 0 < cs.length) : (stmtB id st cs)[cs.length + 1]? = some (eofB st) := by
  unfold stmtB
  rw [if_neg (by omega), List.getElem?_cons_succ, List.getElem?_append_right (by simp)]
  simp
theorem stmtB_col (id st : Int) (cs : List (ByteArray × Int)) (i : Nat) (h : i < cs.length) : (stmtB id st cs)[i + 1]? = some (colB cs[i]) := by
  unfold stmtB
  rw [if_neg (by omega), List.getElem?_cons_succ, List.getElem?_append_left (by simpa using h)]
  simp [h]
theorem colB_pos (p : ByteArray × Int) : 0 < (colB p).length := by
  simp only [colB, List.length_append, List.length_cons, List.length_nil]
  omega
theorem hdrB_len (id n : Int) : (hdrB id n).length = 12 := rfl
theorem eofB_len (st : Int) : (eofB st).length = 5 := rfl

theorem msgCount_at (n N : Nat) (hn : n ≤ 65536) (hN : N = if n = 0 then 1 else n + 2) (w : World) : Calls Try.prog 32 #[.int .i64 n] w fun e w' => e = .returned (.int .i64 N) ∧ w = w' := by
  subst hN
  exact msgCount_any n hn w

theorem Cols.take {w : World} {a : Option Addr} {cs : List (ByteArray × Int)} (h : Cols w a cs) (k : Nat) : Cols w a (cs.take k) := by
  intro hp
  obtain ⟨b, off, rfl, hc⟩ := h (by simp at hp; omega)
  refine ⟨b, off, rfl, fun i hi => ?_⟩
  have := hc i (by simp at hi; omega)
  simpa using this

set_option maxHeartbeats 2000000 in
theorem walk8_main (id st : Int) (a a2 : Option Addr) (n c c2 k : Nat) (ss : List ByteArray) (ts : List Int) (hl : ss.length = n) (hl2 : ts.length = n) (hm : n ≤ 65536) (hk : k ≤ n) (hsz : ∀ i, i < n → (ss.getD i ByteArray.empty).size ≤ 1048576)
    (hty : ∀ t ∈ ts, 0 ≤ t ∧ t ≤ 255) (hsm : ∀ s ∈ ss, s.size ≤ maxLen) (w : World) (h : Strs w a ss) (h2 : Bys w a2 ts) :
    Calls Try.prog 8 #[.int .u32 id, .slice a n c, .slice a2 n c2, .int .u16 st, .int .i64 k] w fun e w' => e = .returned (.bool true) ∧ Below w.heap.size w w' := by
  obtain ⟨cs, hcs⟩ : ∃ cs, cs = ss.zip ts := ⟨_, rfl⟩
  have hcl : cs.length = n := by rw [hcs]; simp; omega
  have hP1 : ∀ p ∈ cs, p.1.size ≤ 1048576 := by
    intro p hp
    obtain ⟨i, hi, rfl⟩ := List.getElem_of_mem hp
    have := hsz i (by omega)
    have h1 : i < ss.length := by omega
    simp only [hcs, List.getElem_zip]
    simpa [h1] using this
  have hP2 : ∀ p ∈ cs, 0 ≤ p.2 ∧ p.2 ≤ 255 := by
    intro p hp
    rw [hcs] at hp
    exact hty p.2 (List.of_mem_zip (a := p.1) (b := p.2) hp).2
  have HCS : Hid (cs = ss.zip ts) := hcs
  have HCL : Hid (cs.length = n) := hcl
  have HP1 : Hid (∀ p ∈ cs, p.1.size ≤ 1048576) := hP1
  have HP2 : Hid (∀ p ∈ cs, 0 ≤ p.2 ∧ p.2 ≤ 255) := hP2
  have HL : Hid (ss.length = n) := hl
  have HL2 : Hid (ts.length = n) := hl2
  have H : Hid (Strs w a ss) := h
  have H2 : Hid (Bys w a2 ts) := h2
  have HSM : Hid (∀ s ∈ ss, s.size ≤ maxLen) := hsm
  obtain ⟨N, hN⟩ : ∃ N, N = if n = 0 then 1 else n + 2 := ⟨_, rfl⟩
  obtain ⟨K, hK⟩ : ∃ K, K = if k = 0 then 1 else k + 2 := ⟨_, rfl⟩
  have HN : Hid (N = if n = 0 then 1 else n + 2) := hN
  have HK : Hid (K = if k = 0 then 1 else k + 2) := hK
  have nN : N ≤ n + 2 := by rw [hN]; split <;> omega
  have nN1 : 1 ≤ N := by rw [hN]; split <;> omega
  have nK : K ≤ k + 2 := by rw [hK]; split <;> omega
  have nK1 : 1 ≤ K := by rw [hK]; split <;> omega
  have hml : n ≤ maxLen := by unfold maxLen; omega
  obtain ⟨G, hG⟩ : ∃ G, G = w.heap.size := ⟨_, rfl⟩
  have HG : Hid (G = w.heap.size) := hG
  rw [← hG]
  clear hcs hcl hP1 hP2 hl hl2 h h2 hsm hN hK hG hsz hty
  go_enter Try.func8, Try.ntmps8
  go_wp2_with fail
  refine (guard29_any id st k a a2 n c n c2 ss HL.out hml hml HSM.out _ H.out).mono ?_
  rintro e w' ⟨⟨r, rfl⟩, rfl⟩
  cases r with
  | false =>
    go_wp2
    go_ret
    exact ⟨rfl, Below.refl _ _⟩
  | true =>
    go_wp2_with fail
    refine (tooBig_any a a2 n c n c2 ss HL.out hml hml HSM.out _ H.out).mono ?_
    rintro e w' ⟨⟨r, rfl, -⟩, rfl⟩
    cases r with
    | true =>
      go_wp2
      go_ret
      exact ⟨rfl, Below.refl _ _⟩
    | false =>
      go_wp2_with fail
      refine (columns_any a a2 n c c2 ss ts HL.out HL2.out hm _ H.out H2.out).mono ?_
      rintro e w1 ⟨rfl, hc1, b1⟩
      rw [← HG.out] at hc1 b1 ⊢
      rw [← HCS.out] at hc1
      have C1 : Hid (Cols w1 (some ⟨G, 0, none⟩) cs) := hc1
      have B1 : Hid (Below G w w1) := b1
      have g1 : G ≤ w1.heap.size := by rw [HG.out]; exact b1.size
      clear hc1 b1
      go_wp2_with fail
      refine (stmt_any id st cs (some ⟨G, 0, none⟩) n n HCL.out hm HP1.out HP2.out _ C1.out).mono ?_
      rintro e w2 ⟨V2, rfl, h2, b2⟩
      have C2 : Hid (Cols w2 (some ⟨G, 0, none⟩) (cs.take k)) := (C1.out.below b2).take k
      have M2 : Hid (Msgs w1.heap.size w2 V2 (stmtB id st cs)) := h2
      have B2 : Hid (Below G w w2) := B1.out.trans (b2.mono g1)
      have g2 : G ≤ w2.heap.size := by have := b2.size; omega
      clear h2 b2
      have ik : (k : Int) ≤ (n : Int) := by omega
      go_wp2_with fail
      refine (stmt_any id st (cs.take k) (some ⟨G, 0, none⟩) k n (by have := HCL.out; simp; omega) (by omega) (fun p hp => HP1.out p (List.mem_of_mem_take hp)) (fun p hp => HP2.out p (List.mem_of_mem_take hp)) _ C2.out).mono ?_
      rintro e w3 ⟨V3, rfl, h3, b3⟩
      have M3 : Hid (Msgs w2.heap.size w3 V3 (stmtB id st (cs.take k))) := h3
      have M23 : Hid (Msgs w1.heap.size w3 V2 (stmtB id st cs)) := M2.out.below b3
      have B3 : Hid (Below G w w3) := B2.out.trans (b3.mono g2)
      have g3 : G ≤ w3.heap.size := by have := b3.size; omega
      have l2 : (stmtB id st cs).length = N := by rw [stmtB_len, HCL.out]; exact HN.out.symm
      have tk : (cs.take k).length = k := by have := HCL.out; simp; omega
      have l3 : (stmtB id st (cs.take k)).length = K := by rw [stmtB_len, tk]; exact HK.out.symm
      obtain ⟨p2, c2', hV2, hcap2, hlt2, hget2⟩ := M23.out.get (by omega)
      obtain ⟨p3, c3', hV3, hcap3, hlt3, hget3⟩ := M3.out.get (by omega)
      rw [l2] at hV2 hcap2
      rw [l3] at hV3 hcap3
      subst hV2
      subst hV3
      obtain ⟨q2, o2, d2, x2, y2, z2⟩ := hget2 0 _ (stmtB_head id st cs) (by rw [hdrB_len]; omega)
      obtain ⟨q3, o3, d3, x3, y3, z3⟩ := hget3 0 _ (stmtB_head id st (cs.take k)) (by rw [hdrB_len]; omega)
      rw [hdrB_len] at x2 x3
      rw [HCL.out] at y2
      rw [tk] at y3
      have Y2 : Hid (Bys w3 (some ⟨q2, o2, none⟩) (hdrB id n)) := y2
      have Y3 : Hid (Bys w3 (some ⟨q3, o3, none⟩) (hdrB id k)) := y3
      have TK : Hid ((cs.take k).length = k) := tk
      clear h3 b3 l2 l3 tk hget2 hget3 y2 y3 z2 z3
      have i2 : (0 : Int) < (N : Int) := by omega
      have i3 : (0 : Int) < (K : Int) := by omega
      go_wp2_with fail
      refine (msgCount_at n N hm HN.out _).mono ?_
      rintro e w' ⟨rfl, rfl⟩
      go_wp2_with fail
      refine (msgCount_at k K (by omega) HK.out _).mono ?_
      rintro e w' ⟨rfl, rfl⟩
      go_wp2_with fail
      refine (headerOK_any q2 o2 d2 id n _ Y2.out).mono ?_
      rintro e w' ⟨rfl, rfl⟩
      go_wp2_with fail
      refine (headerOK_any q3 o3 d3 id k _ Y3.out).mono ?_
      rintro e w' ⟨rfl, rfl⟩
      clear x2 x3 i2 i3
      go_wp2_with fail
      refine (eofPacket_any st w3.heap.size _ (Nat.le_refl _)).mono ?_
      rintro e w4 ⟨v4, rfl, h4, b4⟩
      obtain ⟨a4, c4, rfl, hy4, hc4, hm4, hn4, hx4⟩ := h4.form
      obtain ⟨p4, o4, rfl, -⟩ := hy4 (by rw [eofB_len]; omega)
      rw [eofB_len] at hc4 ⊢
      have Y4 : Hid (Bys w4 (some ⟨p4, o4, none⟩) (eofB st)) := hy4
      have B4 : Hid (Below G w w4) := B3.out.trans (b4.mono g3)
      obtain ⟨p2', c2'', hV2, -, -, hget2⟩ := (M23.out.below b4).get (by have := HN.out; rw [stmtB_len]; split <;> omega)
      obtain ⟨p3', c3'', hV3, -, -, hget3⟩ := (M3.out.below b4).get (by have := HK.out; rw [stmtB_len]; split <;> omega)
      simp only [Value.slice.injEq, Option.some.injEq, Addr.mk.injEq, and_true] at hV2 hV3
      obtain ⟨rfl, -, rfl⟩ := hV2
      obtain ⟨rfl, -, rfl⟩ := hV3
      have GET2 : Hid (∀ i l, (stmtB id st cs)[i]? = some l → 0 < l.length → ∃ p o c', w4.cell? ⟨p2, i, none⟩ = some (.slice (some ⟨p, o, none⟩) l.length c') ∧ Bys w4 (some ⟨p, o, none⟩) l ∧ l.length ≤ c') := hget2
      have GET3 : Hid (∀ i l, (stmtB id st (cs.take k))[i]? = some l → 0 < l.length → ∃ p o c', w4.cell? ⟨p3, i, none⟩ = some (.slice (some ⟨p, o, none⟩) l.length c') ∧ Bys w4 (some ⟨p, o, none⟩) l ∧ l.length ≤ c') := hget3
      clear h4 hy4 hn4 hx4 b4 hget2 hget3 hlt2 hlt3
      go_wp2_with fail
      refine (eofOK_any p4 o4 c4 st _ Y4.out).mono ?_
      rintro e w' ⟨rfl, rfl⟩
      by_cases hn0 : n = 0
      · subst hn0
        obtain rfl : k = 0 := by omega
        go_wp2_with fail
        refine wp_loop_rounds 1 ?_
        rw [rounds_succ]
        go_wp2
        go_ret
        exact ⟨rfl, B4.out⟩
      have hNn : N = n + 2 := by rw [HN.out, if_neg hn0]
      have nN2 : n + 2 ≤ N := by omega
      have hn1 : (0 : Int) < (n : Int) := by omega
      have hn2 : (n : Int) + 1 < (N : Int) := by omega
      obtain ⟨q5, o5, d5, x5, y5, z5⟩ := GET2.out (n + 1) _ (by rw [← HCL.out]; exact stmtB_last id st cs (by have := HCL.out; omega)) (by rw [eofB_len]; omega)
      rw [eofB_len] at x5
      have Y5 : Hid (Bys w4 (some ⟨q5, o5, none⟩) (eofB st)) := y5
      clear y5 z5 hn0 hNn
      go_wp2_with fail
      refine (beq_same (some ⟨q5, o5, none⟩) (some ⟨p4, o4, none⟩) 5 d5 c4 (eofB st) (eofB_len st) (by unfold maxLen; omega) _ Y5.out Y4.out).mono ?_
      rintro e w' ⟨rfl, m5, rfl⟩
      clear x5 hn2
      by_cases hk0 : k = 0
      · subst hk0
        go_wp2_with fail
        refine wp_loop_rounds 1 ?_
        rw [rounds_succ]
        go_wp2
        go_ret
        exact ⟨rfl, below_drewN B4.out _⟩
      have hKn : K = k + 2 := by rw [HK.out, if_neg hk0]
      have nK2 : k + 2 ≤ K := by omega
      have hk1 : (0 : Int) < (k : Int) := by omega
      have hk2 : (k : Int) + 1 < (K : Int) := by omega
      obtain ⟨q6, o6, d6, x6, y6, z6⟩ := GET3.out (k + 1) (eofB st) (by
        have := stmtB_last id st (cs.take k) (by have := TK.out; omega)
        rw [TK.out] at this
        exact this) (by rw [eofB_len]; omega)
      rw [eofB_len] at x6
      have Y6 : Hid (Bys w4 (some ⟨q6, o6, none⟩) (eofB st)) := y6
      clear y6 z6 hk0 hKn
      go_wp2_with fail
      refine (beq_same (some ⟨q6, o6, none⟩) (some ⟨p4, o4, none⟩) 5 d6 c4 (eofB st) (eofB_len st) (by unfold maxLen; omega) _ (Bys.drewN Y6.out _) (Bys.drewN Y4.out _)).mono ?_
      rintro e w' ⟨rfl, m6, rfl⟩
      clear x6 hk2
      go_wp2_with fail
      go_loopw [16] (fun i wr => ∃ j m : Nat, j ≤ k ∧ i = .int .i64 j ∧ wr = w4.drewN m) (fun i _ => k - (intOf i).toNat)
      case atStart => exact ⟨0, m5 + m6, Nat.zero_le _, rfl, by simp⟩
      case round =>
        obtain ⟨j, m, hj, rfl, hw⟩ := hrel
        have HW : Hid (wr = w4.drewN m) := hw
        clear hw
        by_cases hlt : j < k
        · have hjn : j < cs.length := by have := HCL.out; omega
          have hjk : j < (cs.take k).length := by have := TK.out; omega
          obtain ⟨q7, o7, d7, x7, y7, z7⟩ := GET2.out (j + 1) _ (stmtB_col id st cs j hjn) (colB_pos _)
          obtain ⟨q8, o8, d8, x8, y8, z8⟩ := GET3.out (j + 1) _ (stmtB_col id st (cs.take k) j hjk) (colB_pos _)
          have e8 : (cs.take k)[j] = cs[j] := by simp
          rw [e8] at x8 y8
          obtain ⟨l, hL⟩ : ∃ l, l = colB cs[j] := ⟨_, rfl⟩
          rw [← hL] at x7 x8 y7 y8
          have Y7 : Hid (Bys wr (some ⟨q7, o7, none⟩) l) := by rw [HW.out]; exact y7
          have Y8 : Hid (Bys wr (some ⟨q8, o8, none⟩) l) := by rw [HW.out]; exact y8
          have hll : l.length ≤ maxLen := by
            have := colB_len cs[j] (HP1.out _ (List.getElem_mem hjn))
            rw [hL]; unfold maxLen; omega
          obtain ⟨L, hLL⟩ : ∃ L, L = l.length := ⟨_, rfl⟩
          rw [← hLL] at x7 x8 hll
          have HLL : Hid (l.length = L) := hLL.symm
          have a7 : wr.cell? ⟨p2, 1 + j, none⟩ = some (.slice (some ⟨q7, o7, none⟩) L d7) := by rw [HW.out, Nat.add_comm 1 j]; exact x7
          have a8 : wr.cell? ⟨p3, 1 + j, none⟩ = some (.slice (some ⟨q8, o8, none⟩) L d8) := by rw [HW.out, Nat.add_comm 1 j]; exact x8
          clear y7 y8 z7 z8 hL hLL e8 hjn hjk x7 x8
          have j0 : (0 : Int) ≤ 1 + (j : Int) := by omega
          have j1 : 1 + (j : Int) < (N : Int) := by omega
          have j2 : 1 + (j : Int) < (K : Int) := by omega
          have wj : IntKind.i64.wrap (1 + (j : Int)) = 1 + (j : Int) := by rw [IntKind.wrap_i64]; omega
          have tj : (1 + (j : Int)).toNat = 1 + j := by omega
          go_wp2_with fail
          go_quiet ((go_at_call 16; exact Calls.quiet_of (beq_same _ _ L d7 d8 l HLL.out hll _ (Bys.drewN Y7.out _) (Bys.drewN Y8.out _))))
          go_wp2
          go_roundw
          case rel => exact ⟨j + 1, m + nq, by omega, by go_num, by rw [HW.out]; simp⟩
          case measure => simp [intOf]; omega
        · have B5 : Hid (Below G w wr) := by rw [HW.out]; exact below_drewN B4.out _
          clear HW
          go_wp2
          go_ret
          exact ⟨rfl, B5.out⟩

set_option maxHeartbeats 1000000 in
theorem walk8_other (id st q : Int) (a a2 : Option Addr) (n c n2 c2 : Nat) (ss : List ByteArray) (hl : ss.length = n) (hm : n ≤ maxLen) (hm2 : n2 ≤ maxLen) (hsm : ∀ s ∈ ss, s.size ≤ maxLen) (w : World) (h : Strs w a ss)
    (ho : (n ≤ 65536 ∧ n2 ≤ 65536 ∧ ∀ i, i < n → (ss.getD i ByteArray.empty).size ≤ 1048576) → n ≠ n2 ∨ q < 0 ∨ (n : Int) < q) :
    Calls Try.prog 8 #[.int .u32 id, .slice a n c, .slice a2 n2 c2, .int .u16 st, .int .i64 q] w fun e w' => e = .returned (.bool true) ∧ Below w.heap.size w w' := by
  have HL : Hid (ss.length = n) := hl
  have H : Hid (Strs w a ss) := h
  have HSM : Hid (∀ s ∈ ss, s.size ≤ maxLen) := hsm
  have HO : Hid ((n ≤ 65536 ∧ n2 ≤ 65536 ∧ ∀ i, i < n → (ss.getD i ByteArray.empty).size ≤ 1048576) → n ≠ n2 ∨ q < 0 ∨ (n : Int) < q) := ho
  have HM : Hid (n ≤ maxLen) := hm
  have HM2 : Hid (n2 ≤ maxLen) := hm2
  clear hl h hsm ho hm hm2
  go_enter Try.func8, Try.ntmps8
  go_wp2_with fail
  refine (guard29_any id st q a a2 n c n2 c2 ss HL.out HM.out HM2.out HSM.out _ H.out).mono ?_
  rintro e w' ⟨⟨r, rfl⟩, rfl⟩
  cases r with
  | false =>
    go_wp2
    go_ret
    exact ⟨rfl, Below.refl _ _⟩
  | true =>
    go_wp2_with fail
    refine (tooBig_any a a2 n c n2 c2 ss HL.out HM.out HM2.out HSM.out _ H.out).mono ?_
    rintro e w' ⟨⟨r, rfl, hr⟩, rfl⟩
    cases r with
    | true =>
      go_wp2
      go_ret
      exact ⟨rfl, Below.refl _ _⟩
    | false =>
      have hno := HO.out (hr rfl)
      have hb := (hr rfl).1
      have hb2 := (hr rfl).2.1
      clear hr
      by_cases hne : n = n2
      · subst hne
        have hq : q < 0 ∨ (n : Int) < q := by
          rcases hno with h | h
          · exact absurd rfl h
          · exact h
        clear hno
        rcases hq with hq | hq
        · go_wp2
          all_goals (go_ret; exact ⟨rfl, Below.refl _ _⟩)
        · have hq0 : ¬ q < 0 := by omega
          go_wp2
          all_goals (go_ret; exact ⟨rfl, Below.refl _ _⟩)
      · have hne2 : ((n : Int) != (n2 : Int)) = true := by simp; omega
        clear hno
        go_wp2
        all_goals (go_ret; exact ⟨rfl, Below.refl _ _⟩)

theorem walk8_any (id st q : Int) (a a2 : Option Addr) (n c n2 c2 : Nat) (ss : List ByteArray) (ts : List Int) (hl : ss.length = n) (hl2 : ts.length = n2) (hm : n ≤ maxLen) (hm2 : n2 ≤ maxLen) (hsm : ∀ s ∈ ss, s.size ≤ maxLen)
    (hty : ∀ t ∈ ts, 0 ≤ t ∧ t ≤ 255) (w : World) (h : Strs w a ss) (h2 : Bys w a2 ts) :
    Calls Try.prog 8 #[.int .u32 id, .slice a n c, .slice a2 n2 c2, .int .u16 st, .int .i64 q] w fun e w' => e = .returned (.bool true) ∧ Below w.heap.size w w' := by
  by_cases hP : (n ≤ 65536 ∧ n2 ≤ 65536 ∧ ∀ i, i < n → (ss.getD i ByteArray.empty).size ≤ 1048576) ∧ n = n2 ∧ 0 ≤ q ∧ q ≤ n
  · obtain ⟨⟨p1, p2, p3⟩, rfl, q0, q1⟩ := hP
    obtain ⟨k, rfl⟩ : ∃ k : Nat, q = k := ⟨q.toNat, by omega⟩
    exact walk8_main id st a a2 n c c2 k ss ts hl hl2 p1 (by omega) p3 hty hsm w h h2
  · refine walk8_other id st q a a2 n c n2 c2 ss hl hm hm2 hsm w h ?_
    intro hp
    by_cases hne : n = n2
    · right
      by_cases hq : q < 0
      · exact .inl hq
      · right
        by_cases hq2 : (n : Int) < q
        · exact hq2
        · exact absurd ⟨hp, hne, by omega, by omega⟩ hP
    · exact .inl hne
end Go.Proofs.Qxb6615469a
