import Derived.Test.Qxb6605874aDigTwo
namespace Go.Proofs.Qxb6605874a
open Go.RowKit
set_option linter.unusedVariables false

theorem cloneRes_fresh (a : Option Addr) (n c : Nat) (rs : List (ByteArray × Int × Int)) (hl : rs.length = n) (hm : n ≤ 65536) (hn : a = none → n = 0) (w : World) (h : Res w a rs) :
    Calls Try.prog 8 #[.slice a n c] w fun e w' => ∃ a', e = .returned (.slice a' n n) ∧ Res w' a' rs ∧ Below w.heap.size w w' ∧ (∀ x, a' = some x → w.heap.size ≤ x.block) := by
  cases a with
  | none =>
    obtain rfl := hn rfl
    refine (cloneRes_nil 0 c w).mono ?_
    rintro e w' ⟨rfl, rfl⟩
    exact ⟨none, rfl, fun hp => by omega, Below.refl _ _, fun x hx => by cases hx⟩
  | some x =>
    refine (cloneRes_some x n c rs hl hm w h).mono ?_
    rintro e w' ⟨rfl, h1, h2⟩
    exact ⟨_, rfl, h1, h2, fun x hx => by cases hx; exact Nat.le_refl _⟩

theorem Tx.names {cs : Array Value} {id key : ByteArray} {dg : List Int} {ow tx : ByteArray} {a : Option Addr} {n c : Nat} (h : Tx cs id key dg ow tx a n c) (a' : Option Addr) (n' c' : Nat) : Tx (cs.setIfInBounds 20 (.slice a' n' c')) id key dg ow tx a' n' c' := by
  obtain ⟨hsz, hdgl, f0, f1, f2, f18, f19, f20⟩ := h
  refine ⟨by simpa using hsz, hdgl, ?_, ?_, fun i hi => ?_, ?_, ?_, ?_⟩
  · rw [Array.getElem?_setIfInBounds_ne (by omega)]; exact f0
  · rw [Array.getElem?_setIfInBounds_ne (by omega)]; exact f1
  · rw [Array.getElem?_setIfInBounds_ne (by omega)]; exact f2 i hi
  · rw [Array.getElem?_setIfInBounds_ne (by omega)]; exact f18
  · rw [Array.getElem?_setIfInBounds_ne (by omega)]; exact f19
  · rw [Array.getElem?_setIfInBounds_self_of_lt (by omega)]

theorem Res.setCell {w : World} {a : Option Addr} {rs : List (ByteArray × Int × Int)} (h : Res w a rs) {p : Addr} (hp : ∀ x, a = some x → x.block ≠ p.block) (u : Value) : Res (w.setCell p u) a rs := by
  intro hl
  obtain ⟨b, off, rfl, hc⟩ := h hl
  have hb := hp _ rfl
  refine ⟨b, off, rfl, fun i hi => ?_⟩
  obtain ⟨h1, h2, h3⟩ := hc i hi
  have e : ∀ o, (w.setCell p u).cell? ⟨b, o, none⟩ = w.cell? ⟨b, o, none⟩ := fun o => World.cell?_of_block (w := w) (Below.heap_setCell w p u b hb)
  rw [e, e, e]
  exact ⟨h1, h2, h3⟩

theorem row_setCell {w : World} {g i : Nat} {cs : Array Value} {t : TypeId} {fr : Nat × Nat} (h : w.heap[g]? = some (.cells cs t fr)) (v : Value) : (w.setCell ⟨g, i, none⟩ v).heap[g]? = some (.cells (cs.setIfInBounds i v) t fr) := by
  rw [setCell_eq_setRow w g i cs t fr v h, setRow_heap w g _ _ t _ h]

theorem Bys.tail {w : World} {g o : Nat} {l1 l2 : List Int} (h : Bys w (some ⟨g, o, none⟩) (l1 ++ l2)) : Bys w (some ⟨g, o + l1.length, none⟩) l2 := by
  intro hp
  refine ⟨g, o + l1.length, rfl, fun i hi => ?_⟩
  rw [Nat.add_assoc]
  exact h.at (l1.length + i) (by simp; omega) _ (getD_right l1 l2 i)
theorem Bys.front {w : World} {g o : Nat} {l1 l2 : List Int} (h : Bys w (some ⟨g, o, none⟩) (l1 ++ l2)) : Bys w (some ⟨g, o, none⟩) l1 := by
  intro hp
  refine ⟨g, o, rfl, fun i hi => ?_⟩
  exact h.at i (by simp; omega) _ (getD_left l1 l2 i hi)

theorem keyB_len (key : ByteArray) (dg : List Int) (h : dg.length = 16) : (keyB key dg).length = if key.size = 0 then 0 else key.size + 16 := by
  unfold keyB
  split
  · rfl
  · simp [nums_length, h]

theorem encB_len (id key : ByteArray) (dg : List Int) (ow tx : ByteArray) (rs : List (ByteArray × Int × Int)) (h : dg.length = 16) (hs : (id.size : Int) + key.size + 16 + ow.size + tx.size + charge rs ≤ 1048576) :
    (encB id key dg ow tx rs).length ≤ 2000000 ∧ id.size + (keyB key dg).length ≤ (encB id key dg ow tx rs).length := by
  have h1 := keyB_len key dg h
  have h2 := resL_len rs
  unfold encB
  simp only [List.length_append, nums_length]
  split at h1 <;> omega

theorem wpList_load_wanted {P : Program} {ops : Array Oper} {rest : List Oper} {op : Oper} {a : Act} {w : World} {Q : Exit → Act → World → Prop} (hw : Region.wanted op (yielded ops a.tmps) = true) (ty : TypeId) (x : Operand) (ho : op.op = .load ty x)
    (b o : Nat) (hx : a.eval x = .pointer (some ⟨b, o, none⟩)) (cs : List Value) (d : TypeDesc) (hc : w.rangeAt b o cs)
    (hu : P.underlying ty = some d) (hd : d.isRow = true) (hi : (P.info? ty).map (·.size) = some cs.length)
    (h : wpList P ops Q rest (a.put op.dst (.agg cs.toArray)) w) : wpList P ops Q (op :: rest) a w :=
  wpList_step fun K hK => by rw [if_pos hw]; exact wp_load_mid ty x ho b o hx cs d hc hu hd hi (hK _ _ h)

theorem size5 (w : World) : (sizeOf 5).run Try.prog w = .ok 1 w := by
  obtain ⟨i, hi, h⟩ := Option.map_eq_some_iff.1 (show (Try.prog.info? 5).map (·.size) = some 1 by kernel_rfl)
  simp [sizeOf, typeInfo, hi, h]

/-- An array of bytes is stored into the variable that was made last. -/
theorem wpList_store_new {P : Program} {ops : Array Oper} {rest : List Oper} {op : Oper} {a : Act} {Q : Exit → Act → World → Prop} (hgd : op.guard = none) (ty : TypeId) (x y : Operand) (ho : op.op = .store ty x y)
    (w7 : World) (Z : Array Value) (t : TypeId) (L : List Int) (hx : a.eval x = .pointer (some ⟨w7.heap.size, 0, none⟩)) (hy : a.eval y = .agg (L.map (Value.int .u8)).toArray)
    (hZ : L.length = Z.size) (hi : (P.info? ty).map (·.size) = some (L.map (Value.int .u8)).toArray.size)
    (h : ∀ w8, Hid (w8.rangeAt w7.heap.size 0 (L.map (Value.int .u8))) → Hid (Below w7.heap.size w7 w8) → wpList P ops Q rest (a.put op.dst undef) w8) : wpList P ops Q (op :: rest) a (w7.alloc (.cells Z t)) := by
  refine wpList_store_mid hgd ty x y ho w7.heap.size 0 (L.map (Value.int .u8)).toArray hx hy (there_new w7 Z t _ (by simpa using hZ)) hi (dg_oneCell L) ?_
  exact h _ (World.rangeAt_setCells_same _ _ _ _ (there_new w7 Z t _ (by simpa using hZ))) (dig_below w7 Z t L)

set_option maxHeartbeats 2000000 in
theorem walk3 (cs : Array Value) (id key : ByteArray) (dg : List Int) (ow tx : ByteArray) (a : Option Addr) (n c : Nat) (rs : List (ByteArray × Int × Int)) (h : Tx cs id key dg ow tx a n c) (hl : rs.length = n) (hn : n ≤ maxLen) (ha : a = none → n = 0)
    (hid : id.size ≤ maxLen) (hkey : key.size ≤ maxLen) (how : ow.size ≤ maxLen) (htx : tx.size ≤ maxLen) (hrs : ∀ r ∈ rs, r.1.size ≤ maxLen) (w : World) (hr : Res w a rs) :
    Calls Try.prog 3 #[.agg cs] w fun e w' => e = .returned (.bool true) ∧ Below w.heap.size w w' := by
  have row0 : (w.alloc (.cells cs 25)).heap[w.heap.size]? = some (.cells cs 25 (0, 0)) := heap_alloc_new w _
  have b0 : Below w.heap.size w (w.alloc (.cells cs 25)) := (Below.refl _ _).alloc (by omega) _
  have r0 := hr.below ((Below.refl w.heap.size w).alloc (Nat.le_refl _) (.cells cs 25))
  have s0 : w.heap.size < (w.alloc (.cells cs 25)).heap.size := by simp
  have HTX : Hid _ := h
  have HL : Hid _ := hl
  have HN : Hid _ := hn
  have HA : Hid _ := ha
  have HID : Hid _ := hid
  have HKEY : Hid _ := hkey
  have HOW : Hid _ := how
  have HTXN : Hid _ := htx
  have HRS : Hid _ := hrs
  have HI25 : Hid ((Try.prog.info? 25).map (·.size) = some cs.size) := show _ = _ by rw [h.size]; kernel_rfl
  have HROW : Hid _ := row0
  have HB : Hid _ := b0
  have HR : Hid _ := r0
  have HSZ : Hid _ := s0
  clear h hl ha hid hkey how htx hrs row0 b0 r0 s0 hr hn
  go_enter Try.func3, Try.ntmps3
  go_wp2_with (first
      | (refine wpList_load_row rfl 25 (.tmp 1) rfl w.heap.size rfl 25 cs (0, 0) _ (heap_alloc_new w _) Try.underlying25 rfl HI25.out ?_))
  generalize w.alloc (.cells cs 25) = w0 at HROW HB HR HSZ ⊢
  refine (guard5_any cs id key dg ow tx a n c rs HTX.out HL.out HN.out HID.out HKEY.out HOW.out HTXN.out HRS.out w0 HR.out).mono ?_
  rintro e w1 ⟨⟨r, rfl⟩, hb⟩
  have x20 : w1.cell? ⟨w.heap.size, 20, none⟩ = some (.slice a n c) := by rw [hb.cell HSZ.out, cell_of_row _ _ _ _ _ _ HROW.out]; exact HTX.out.f20
  have HROW1 : Hid (w1.heap[w.heap.size]? = some (.cells cs 25 (0, 0))) := (hb.block w.heap.size HSZ.out).trans HROW.out
  have HB1 : Hid (Below w.heap.size w w1) := HB.out.trans (hb.mono (Nat.le_of_lt HSZ.out))
  have HR1 : Hid (Res w1 a rs) := Res.below HR.out hb
  have HSZ1 : Hid (w.heap.size < w1.heap.size) := Nat.lt_of_lt_of_le HSZ.out hb.size
  clear hb HROW HB HR HSZ
  have hn : n ≤ 9223372036854775807 := HN.out
  go_wp2_with (first
      | (refine wpList_load_row rfl 25 (.tmp 1) rfl w.heap.size rfl 25 cs (0, 0) _ HROW1.out Try.underlying25 rfl HI25.out ?_))
  focus
    go_ret
    exact ⟨rfl, HB1.out⟩
  focus
    go_ret
    exact ⟨rfl, HB1.out⟩
  rename_i hn6
  have hn6' : n ≤ 65536 := by omega
  refine (textBytes_any cs id key dg ow tx a n c rs HTX.out HL.out HN.out HID.out HKEY.out HOW.out HTXN.out HRS.out w1 HR1.out).mono ?_
  rintro e w2 ⟨q, rfl, hb, hq0, hq1, hq⟩
  have HQ : Hid _ := hq
  have x20' : w2.cell? ⟨w.heap.size, 20, none⟩ = some (.slice a n c) := (hb.cell HSZ1.out).trans x20
  have HROW2 : Hid (w2.heap[w.heap.size]? = some (.cells cs 25 (0, 0))) := (hb.block w.heap.size HSZ1.out).trans HROW1.out
  have HB2 : Hid (Below w.heap.size w w2) := HB1.out.trans (hb.mono (Nat.le_of_lt HSZ1.out))
  have HR2 : Hid (Res w2 a rs) := Res.below HR1.out hb
  have HSZ2 : Hid (w.heap.size < w2.heap.size) := Nat.lt_of_lt_of_le HSZ1.out hb.size
  clear hb HROW1 HB1 HR1 HSZ1 hq x20
  go_wp2_with fail
  focus
    go_ret
    exact ⟨rfl, HB2.out⟩
  rename_i hq5
  have hsum := HQ.out (by omega)
  have HSUM : Hid _ := hsum
  clear hsum HQ
  refine (modesOK_any a n c rs HL.out HN.out w2 HR2.out).mono ?_
  rintro e w' ⟨⟨r2, rfl⟩, rfl⟩
  go_wp2_with fail
  focus
    go_ret
    exact ⟨rfl, HB2.out⟩
  refine (cloneRes_fresh a n c rs HL.out hn6' HA.out w2 HR2.out).mono ?_
  rintro e w3 ⟨a', rfl, hr3, hb, hfr⟩
  have x20'' : w3.cell? ⟨w.heap.size, 20, none⟩ = some (.slice a n c) := (hb.cell HSZ2.out).trans x20'
  have HROW3 : Hid (w3.heap[w.heap.size]? = some (.cells cs 25 (0, 0))) := (hb.block w.heap.size HSZ2.out).trans HROW2.out
  have fz : w3.frozen? ⟨w.heap.size, 20, none⟩ = false := frozen_of_row _ _ _ _ _ HROW3.out
  obtain ⟨w4, hw4⟩ : ∃ w4, w4 = w3.setCell ⟨w.heap.size, 20, none⟩ (.slice a' n n) := ⟨_, rfl⟩
  have HROW4 : Hid (w4.heap[w.heap.size]? = some (.cells (cs.setIfInBounds 20 (.slice a' n n)) 25 (0, 0))) := by
    show w4.heap[w.heap.size]? = _
    rw [hw4]; exact row_setCell HROW3.out _
  have HB4 : Hid (Below w.heap.size w w4) := by
    show Below _ _ _
    rw [hw4]; exact (HB2.out.trans (hb.mono (Nat.le_of_lt HSZ2.out))).setCell (Nat.le_refl _) _
  have HR4 : Hid (Res w4 a' rs) := by
    show Res w4 a' rs
    rw [hw4]; exact Res.setCell hr3 (fun x hx => by have := hfr x hx; have := HSZ2.out; show x.block ≠ w.heap.size; omega) _
  have HSZ4 : Hid (w.heap.size < w4.heap.size) := by
    show w.heap.size < _
    rw [hw4]; simp; exact Nat.lt_of_lt_of_le HSZ2.out hb.size
  have HTX4 : Hid _ := HTX.out.names a' n n
  have HI25' : Hid ((Try.prog.info? 25).map (·.size) = some (cs.setIfInBounds 20 (.slice a' n n)).size) := show _ = _ by rw [HTX4.out.size]; kernel_rfl
  generalize hcs : cs.setIfInBounds 20 (.slice a' n n) = cs4 at HROW4 HTX4 HI25'
  have HW4 : Hid _ := hw4
  clear hb HROW2 HB2 HR2 HSZ2 hr3 hfr x20' hcs
  go_wp2_with (first
      | (rw [← HW4.out]; refine wpList_load_row rfl 25 (.tmp 1) rfl w.heap.size rfl 25 cs4 (0, 0) _ HROW4.out Try.underlying25 rfl HI25'.out ?_))
  rw [← HW4.out]
  have hdl := HTX.out.dgl
  have hcn := charge_nonneg rs
  have hz := HSUM.out
  have hlen := encB_len id key dg ow tx rs hdl hz
  have hkb := keyB_len key dg hdl
  have x1 : cs4[1]? = some (.string key) := HTX4.out.f1
  have x2 : ∀ i, i < 16 → cs4[2 + i]? = some (.int .u8 (dg.getD i 0)) := HTX4.out.f2
  have s4 : cs4.size = 21 := HTX4.out.size
  clear HROW3 fz x20'' HW4 hw4 HA HTX HI25 HID HKEY HOW HTXN HRS HN hn hq0 hq1
  refine (encode_any cs4 id key dg ow tx a' n n rs HTX4.out HL.out hn6' (by omega) (by omega) (by omega) (by omega) (by omega) w4 HR4.out).mono ?_
  rintro e w5 ⟨v, k1, k2, k3, k4, rfl, hbuf, hb, e1, e2, e3, e4⟩
  obtain ⟨a5, c5, hv, hbys, hlc, hcm, hnil, hsp⟩ := hbuf.form
  subst hv
  have HROW5 : Hid (w5.heap[w.heap.size]? = some (.cells cs4 25 (0, 0))) := (hb.block w.heap.size HSZ4.out).trans HROW4.out
  have HB5 : Hid (Below w.heap.size w w5) := HB4.out.trans (hb.mono (Nat.le_of_lt HSZ4.out))
  have HSZ5 : Hid (w.heap.size < w5.heap.size) := Nat.lt_of_lt_of_le HSZ4.out hb.size
  have HL5 : Hid _ := hlen
  have HBY : Hid _ := hbys
  generalize hN : (encB id key dg ow tx rs).length = N at hlc hlen ⊢
  have HNN : Hid _ := hN
  have HX2 : Hid _ := x2
  have HS4 : Hid _ := s4
  have HX1 : Hid _ := x1
  have HLC : Hid _ := hlc
  have HE1 : Hid _ := e1
  have HE2 : Hid _ := e2
  have HKB : Hid _ := hkb
  have HN20 : Hid (N ≤ 2000000) := hlen.1
  have HK20 : Hid (k2 ≤ N) := by have := hlen.2; show k2 ≤ N; omega
  have HNIL : Hid _ := hnil
  have HSP : Hid _ := hsp
  have HDL : Hid _ := hdl
  clear hbuf hb hbys hcm hnil hsp HROW4 HB4 HSZ4 HR4 HTX4 hz hcn hlen hN x2 s4 x1 hlc e1 e2 hkb hdl HSUM HL e3 e4
  by_cases hke : key.size = 0
  · have hk : key.toList.isEmpty = true := by rw [empty_size]; simpa using hke
    have hkk : k2 ≤ k1 := by have h1 := HE1.out; have h2 := HE2.out; have h3 := HKB.out; rw [if_pos hke] at h3; omega
    have HKK : Hid _ := hkk
    clear hkk
    go_wp2_with fail
    refine (kt_none a5 N c5 k1 k2 k3 k4 w5 (by have := HN20.out; omega) HKK.out).mono ?_
    rintro e w6 ⟨rfl, hb⟩
    have HROW6 : Hid (w6.heap[w.heap.size]? = some (.cells cs4 25 (0, 0))) := (hb.block w.heap.size HSZ5.out).trans HROW5.out
    have HB6 : Hid (Below w.heap.size w w6) := HB5.out.trans (hb.mono (Nat.le_of_lt HSZ5.out))
    have HSZ6 : Hid (w.heap.size < w6.heap.size) := Nat.lt_of_lt_of_le HSZ5.out hb.size
    clear hb HROW5 HB5 HSZ5
    go_wp2_with fail
    refine (dig_no a5 N c5 k1 k2 k3 k4 w6 (by have := HN20.out; omega) HKK.out).mono ?_
    rintro e w7 ⟨rfl, hb⟩
    have HROW7 : Hid (w7.heap[w.heap.size]? = some (.cells cs4 25 (0, 0))) := (hb.block w.heap.size HSZ6.out).trans HROW6.out
    have HB7 : Hid (Below w.heap.size w w7) := HB6.out.trans (hb.mono (Nat.le_of_lt HSZ6.out))
    have HSZ7 : Hid (w.heap.size < w7.heap.size) := Nat.lt_of_lt_of_le HSZ6.out hb.size
    clear hb HROW6 HB6 HSZ6
    have hnl := fun w => Lib.run_eql_slice_nil (P := Try.prog) w 30 5 none 0 0 0 0 Try.underlying30
    have HI34' : Hid ((Try.prog.info? 34).map (·.size) = some ((List.replicate 16 (0 : Int)).map (Value.int .u8)).toArray.size) := show _ = _ by kernel_rfl
    go_wp2_with (first
      | (refine wpList_store_new rfl 34 (.tmp 9) (.tmp 47) rfl w7 _ 34 (List.replicate 16 (0 : Int)) rfl rfl rfl HI34'.out ?_))
    intro w8 hr8 hb8
    have y1 : w8.cell? ⟨w.heap.size, 1, none⟩ = some (.string key) := by rw [hb8.out.cell HSZ7.out, cell_of_row _ _ _ _ _ _ HROW7.out]; exact HX1.out
    have HBX : Hid (Below w.heap.size w w8) := HB7.out.trans (hb8.out.mono (Nat.le_of_lt HSZ7.out))
    have HI34 : Hid ((Try.prog.info? 34).map (·.size) = some ((List.replicate 16 (0 : Int)).map (Value.int .u8)).length) := show _ = _ by kernel_rfl
    have heq : ∀ w, (binOp .eql 34 (.agg #[.int .u8 0, .int .u8 0, .int .u8 0, .int .u8 0, .int .u8 0, .int .u8 0, .int .u8 0, .int .u8 0, .int .u8 0, .int .u8 0, .int .u8 0, .int .u8 0, .int .u8 0, .int .u8 0, .int .u8 0, .int .u8 0]) (.agg #[.int .u8 0, .int .u8 0, .int .u8 0, .int .u8 0, .int .u8 0, .int .u8 0, .int .u8 0, .int .u8 0, .int .u8 0, .int .u8 0, .int .u8 0, .int .u8 0, .int .u8 0, .int .u8 0, .int .u8 0, .int .u8 0])).run Try.prog w = .ok (.bool true) w :=
      fun w => eql_same w 34 5 16 Try.underlying34 Try.underlying5 size5 (List.replicate 16 (0 : Int)) rfl
    go_wp2_with (first
      | (refine wpList_load_wanted (by rfl) 34 (.tmp 9) rfl w7.heap.size 0 rfl ((List.replicate 16 (0 : Int)).map (Value.int .u8)) _ hr8.out Try.underlying34 rfl HI34.out ?_))
    go_ret
    exact ⟨rfl, HBX.out⟩
  · have hk : key.toList.isEmpty = false := by rw [empty_size]; simpa using hke
    obtain ⟨g, rfl⟩ : ∃ g, a5 = some ⟨g, 0, none⟩ := by
      have hp : 0 < (encB id key dg ow tx rs).length := by have h1 := HE2.out; have h2 := HKB.out; rw [if_neg hke] at h2; have h3 := HK20.out; have h4 := HNN.out; omega
      obtain ⟨b, off, hx, -⟩ := HBY.out hp
      have := HSP.out ⟨b, off, none⟩ hx
      obtain ⟨-, ho, -, -⟩ := this
      simp at ho
      exact ⟨b, by rw [hx, ho]⟩
    have HKK : Hid (k2 = k1 + key.size + 16) := by show k2 = _; have h1 := HE1.out; have h2 := HE2.out; have h3 := HKB.out; rw [if_neg hke] at h3; omega
    have HLT : Hid (k1 + 16 < k2) := by show _ < _; have h1 := HKK.out; omega
    have HKE : Hid (encB id key dg ow tx rs = nums id ++ (nums key ++ (dg ++ (nums ow ++ (nums tx ++ resL rs))))) := by
      show encB id key dg ow tx rs = _
      unfold encB keyB; rw [if_neg hke]; simp only [List.append_assoc]
    have HBK : Hid (Bys w5 (some ⟨g, k1, none⟩) (nums key)) := by
      show Bys w5 (some ⟨g, k1, none⟩) (nums key)
      have h1 : Bys w5 (some ⟨g, 0, none⟩) (encB id key dg ow tx rs) := HBY.out
      rw [HKE.out] at h1
      have h2 := h1.tail.front
      rw [nums_length, Nat.zero_add, ← HE1.out] at h2
      exact h2
    have HBD : Hid (Bys w5 (some ⟨g, k2 - 16, none⟩) dg) := by
      show Bys w5 (some ⟨g, k2 - 16, none⟩) dg
      have h1 : Bys w5 (some ⟨g, 0, none⟩) (encB id key dg ow tx rs) := HBY.out
      rw [HKE.out] at h1
      have h2 := h1.tail.tail.front
      rw [nums_length, nums_length, Nat.zero_add, ← HE1.out] at h2
      have h3 := HKK.out
      rw [show k2 - 16 = k1 + key.size by omega]
      exact h2
    have HM : Hid (k2 - 16 - k1 = key.size) := by show _ = _; have h3 := HKK.out; omega
    go_wp2_with fail
    refine (kt_yes g N c5 k1 k2 k3 k4 w5 (by have := HN20.out; omega) HLT.out HK20.out HLC.out).mono ?_
    rintro e w6 ⟨rfl, hb⟩
    rw [HM.out]
    have HROW6 : Hid (w6.heap[w.heap.size]? = some (.cells cs4 25 (0, 0))) := (hb.block w.heap.size HSZ5.out).trans HROW5.out
    have HB6 : Hid (Below w.heap.size w w6) := HB5.out.trans (hb.mono (Nat.le_of_lt HSZ5.out))
    have HSZ6 : Hid (w.heap.size < w6.heap.size) := Nat.lt_of_lt_of_le HSZ5.out hb.size
    have HBK6 : Hid (Bys w6 (some ⟨g, k1, none⟩) (nums key)) := Bys.below HBK.out hb
    have HBD6 : Hid (Bys w6 (some ⟨g, k2 - 16, none⟩) dg) := Bys.below HBD.out hb
    clear hb HROW5 HB5 HSZ5 HBK HBD
    go_wp2_with fail
    refine (dig_yes g N c5 k1 k2 k3 k4 dg w6 (by have := HN20.out; omega) HLT.out HK20.out HLC.out HDL.out HBD6.out).mono ?_
    rintro e w7 ⟨rfl, hb⟩
    have HROW7 : Hid (w7.heap[w.heap.size]? = some (.cells cs4 25 (0, 0))) := (hb.block w.heap.size HSZ6.out).trans HROW6.out
    have HB7 : Hid (Below w.heap.size w w7) := HB6.out.trans (hb.mono (Nat.le_of_lt HSZ6.out))
    have HSZ7 : Hid (w.heap.size < w7.heap.size) := Nat.lt_of_lt_of_le HSZ6.out hb.size
    have HBK7 : Hid (Bys w7 (some ⟨g, k1, none⟩) (nums key)) := Bys.below HBK6.out hb
    clear hb HROW6 HB6 HSZ6 HBK6 HBD6
    have HI34 : Hid ((Try.prog.info? 34).map (·.size) = some (dg.map (Value.int .u8)).length) := show _ = _ by rw [List.length_map, HDL.out]; kernel_rfl
    have HI34' : Hid ((Try.prog.info? 34).map (·.size) = some (dg.map (Value.int .u8)).toArray.size) := show _ = _ by simpa using HI34.out
    have HI22 : Hid ((Try.prog.info? 22).map (·.size) = some (dg.map (Value.int .u8)).length) := show _ = _ by rw [List.length_map, HDL.out]; kernel_rfl
    go_wp2_with (first
      | (refine wpList_store_new rfl 34 (.tmp 9) (.tmp 47) rfl w7 _ 34 dg rfl rfl (by simpa using HDL.out) HI34'.out ?_))
    intro w8 hr8 hb8
    have y1 : w8.cell? ⟨w.heap.size, 1, none⟩ = some (.string key) := by rw [hb8.out.cell HSZ7.out, cell_of_row _ _ _ _ _ _ HROW7.out]; exact HX1.out
    have HROW8 : Hid (w8.heap[w.heap.size]? = some (.cells cs4 25 (0, 0))) := (hb8.out.block w.heap.size HSZ7.out).trans HROW7.out
    have HBX : Hid (Below w.heap.size w w8) := HB7.out.trans (hb8.out.mono (Nat.le_of_lt HSZ7.out))
    have HR22 : Hid (w8.rangeAt w.heap.size 2 (dg.map (Value.int .u8))) := by
      intro j v hj
      have hj2 : j < dg.length := by
        rcases Nat.lt_or_ge j dg.length with h | h
        · exact h
        · rw [List.getElem?_eq_none (by simpa using h)] at hj; cases hj
      rw [cell_of_row _ _ _ _ _ _ HROW8.out, HX2.out j (by have := HDL.out; omega)]
      rw [List.getElem?_map, List.getElem?_eq_getElem hj2] at hj
      simp at hj
      rw [← hj]; simp [List.getElem?_eq_getElem hj2]
    have HBK8 : Bys w8 (some ⟨g, k1, none⟩) (nums key) := Bys.below HBK7.out hb8.out
    have hcv := run_convert_bytes_arg (P := Try.prog) w8 30 5 Try.underlying30 Try.underlying5 g k1 key.size (c5 - k1) (nums key) (nums_length key) (fun i hi => HBK8.at i (by rw [nums_length]; exact hi) _ rfl) 9 Try.underlying9
    rw [strOfNums_nums] at hcv
    have heq : ∀ w, (binOp .eql 22 (.agg (dg.map (Value.int .u8)).toArray) (.agg (dg.map (Value.int .u8)).toArray)).run Try.prog w = .ok (.bool true) w :=
      fun w => eql_same w 22 5 16 Try.underlying22 Try.underlying5 size5 dg HDL.out
    clear HBK8
    go_wp2_with (first
      | (refine wpList_load_wanted (by simp [Region.wanted, yielded]; done) 34 (.tmp 9) rfl w7.heap.size 0 rfl (dg.map (Value.int .u8)) _ hr8.out Try.underlying34 rfl HI34.out ?_)
      | (refine wpList_load_wanted (by simp [Region.wanted, yielded]; done) 22 (.tmp 65) rfl w.heap.size 2 rfl (dg.map (Value.int .u8)) _ HR22.out Try.underlying22 rfl HI22.out ?_))
    go_ret
    exact ⟨rfl, HBX.out⟩

end Go.Proofs.Qxb6605874a
