import Derived.Test.Qxb6605874aFlip
import Derived.Deep.WholeRow
namespace Go.Proofs.Qxb6605874a
open Go.RowKit
set_option linter.unusedVariables false

/-- keyText, with a key or without. -/
theorem kt_both (x : Option Addr) (n c k1 k2 k3 k4 m : Nat) (w : World) (hn : n ≤ 100000000) (hnc : n ≤ c) (h : (m = 0 ∧ k2 ≤ k1) ∨ (0 < m ∧ k2 = k1 + m + 16 ∧ k2 ≤ n ∧ ∃ g, x = some ⟨g, 0, none⟩)) :
    Calls Try.prog 10 #[.slice x n c, .int .i32 k1, .int .i32 k2, .int .i32 k3, .int .i32 k4] w fun e w' =>
      ∃ ak ck, e = .returned (.slice ak m ck) ∧ (∀ g, x = some ⟨g, 0, none⟩ → 0 < m → ak = some ⟨g, k1, none⟩) ∧ Below w.heap.size w w' := by
  rcases h with ⟨rfl, h⟩ | ⟨hm, h1, h2, g, rfl⟩
  · refine (kt_none x n c k1 k2 k3 k4 w hn h).mono ?_
    rintro e w' ⟨rfl, hb⟩
    exact ⟨_, _, rfl, fun _ _ h => absurd h (Nat.lt_irrefl 0), hb⟩
  · refine (kt_yes g n c k1 k2 k3 k4 w hn (by omega) h2 hnc).mono ?_
    rintro e w' ⟨rfl, hb⟩
    refine ⟨some ⟨g, k1, none⟩, c - k1, by rw [show k2 - 16 - k1 = m by omega], fun g' h _ => by cases h; rfl, hb⟩

theorem Tx.keyed {cs : Array Value} {id key : ByteArray} {dg : List Int} {ow tx : ByteArray} {a : Option Addr} {n c : Nat} (h : Tx cs id key dg ow tx a n c) (fk : ByteArray) : Tx (cs.setIfInBounds 1 (.string fk)) id fk dg ow tx a n c := by
  obtain ⟨hsz, hdgl, f0, f1, f2, f18, f19, f20⟩ := h
  refine ⟨by simpa using hsz, hdgl, ?_, ?_, fun i hi => ?_, ?_, ?_, ?_⟩
  · rw [Array.getElem?_setIfInBounds_ne (by omega)]; exact f0
  · rw [Array.getElem?_setIfInBounds_self_of_lt (by omega)]
  · rw [Array.getElem?_setIfInBounds_ne (by omega)]; exact f2 i hi
  · rw [Array.getElem?_setIfInBounds_ne (by omega)]; exact f18
  · rw [Array.getElem?_setIfInBounds_ne (by omega)]; exact f19
  · rw [Array.getElem?_setIfInBounds_ne (by omega)]; exact f20

theorem Tx.one {cs : Array Value} {id key : ByteArray} {dg : List Int} {ow tx : ByteArray} {a : Option Addr} {n c : Nat} (h : Tx cs id key dg ow tx a n c) : cs.all (·.oneCell') = true := by
  obtain ⟨hsz, hdgl, f0, f1, f2, f18, f19, f20⟩ := h
  rw [Array.all_eq_true]
  intro i hi
  have hg : cs[i]? = some cs[i] := Array.getElem?_eq_getElem hi
  have done : ∀ v, cs[i]? = some v → v.oneCell' = true → (cs[i]).oneCell' = true := by
    intro v hv h1
    rw [hg] at hv
    cases hv
    exact h1
  by_cases h0 : i = 0
  · subst h0; exact done _ f0 rfl
  by_cases h1 : i = 1
  · subst h1; exact done _ f1 rfl
  by_cases h18 : i = 18
  · subst h18; exact done _ f18 rfl
  by_cases h19 : i = 19
  · subst h19; exact done _ f19 rfl
  by_cases h20 : i = 20
  · subst h20; exact done _ f20 rfl
  have e : i = 2 + (i - 2) := by omega
  refine done (.int .u8 (dg.getD (i - 2) 0)) ?_ rfl
  rw [e]
  have := f2 (i - 2) (by omega)
  simpa using this

/-- The text with the first k bytes of its key flipped. -/
def mix (key : ByteArray) (k : Nat) : List Int := ((nums key).map flp).take k ++ (nums key).drop k
theorem mix_len (key : ByteArray) (k : Nat) : (mix key k).length = key.size := by simp [mix, nums_length]; omega
theorem mix_at (key : ByteArray) (k : Nat) (hk : k < key.size) : (mix key k).getD k 0 = (nums key).getD k 0 := by
  unfold mix
  have hl : (((nums key).map flp).take k).length = k := by simp [nums_length]; omega
  have := getD_right (((nums key).map flp).take k) ((nums key).drop k) 0
  rw [hl, Nat.add_zero] at this
  rw [this]
  simp [List.getD_eq_getElem?_getD]
theorem mix_succ (key : ByteArray) (k : Nat) (hk : k < key.size) : (mix key k).set k (flp ((nums key).getD k 0)) = mix key (k + 1) := by
  have hn : k < (nums key).length := by rw [nums_length]; exact hk
  unfold mix
  apply List.ext_getElem?
  intro i
  have hl : (((nums key).map flp).take k).length = k := by simp [nums_length]; omega
  have hl' : (((nums key).map flp).take (k + 1)).length = k + 1 := by simp [nums_length]; omega
  rw [List.getElem?_set, List.getElem?_append, List.getElem?_append, hl, hl']
  by_cases h1 : i < k
  · simp [h1, show ¬ k = i by omega, show i < k + 1 by omega]
  · by_cases h2 : k = i
    · subst h2
      have : k < ((((nums key).map flp).take k) ++ (nums key).drop k).length := by simp; omega
      simp [hn]
      omega
    · simp [h1, h2, show ¬ i < k + 1 by omega, List.getElem?_drop]
      congr 1
      omega
def encK (id key : ByteArray) (dg : List Int) (ow tx : ByteArray) (rs : List (ByteArray × Int × Int)) (k : Nat) : List Int :=
  if key.size = 0 then encB id key dg ow tx rs else nums id ++ (mix key k ++ (dg ++ (nums ow ++ (nums tx ++ resL rs))))
theorem encK_zero (id key : ByteArray) (dg : List Int) (ow tx : ByteArray) (rs : List (ByteArray × Int × Int)) : encB id key dg ow tx rs = encK id key dg ow tx rs 0 := by
  unfold encK
  split
  · rfl
  · rename_i h
    unfold encB keyB mix
    rw [if_neg h]
    simp
theorem encK_all (id key : ByteArray) (dg : List Int) (ow tx : ByteArray) (rs : List (ByteArray × Int × Int)) : encK id key dg ow tx rs key.size = encB id (flipped key) dg ow tx rs := by
  unfold encK
  split
  · rename_i h
    unfold encB keyB
    rw [if_pos h, if_pos (by rw [flipped_size]; exact h)]
  · rename_i h
    unfold encB keyB mix
    rw [if_neg (by rw [flipped_size]; exact h), nums_flipped]
    have e1 : ((nums key).map flp).take key.size = (nums key).map flp := List.take_of_length_le (by simp [nums_length])
    have e2 : (nums key).drop key.size = [] := List.drop_eq_nil_of_le (by simp [nums_length])
    rw [e1, e2]
    simp only [List.append_assoc, List.append_nil]
theorem encK_len (id key : ByteArray) (dg : List Int) (ow tx : ByteArray) (rs : List (ByteArray × Int × Int)) (k : Nat) : (encK id key dg ow tx rs k).length = (encB id key dg ow tx rs).length := by
  rw [encK_zero]
  unfold encK
  split
  · rfl
  · simp [mix_len]
theorem set_mid {α : Type} (A B R : List α) (k : Nat) (x : α) (hk : k < B.length) : (A ++ (B ++ R)).set (A.length + k) x = A ++ (B.set k x ++ R) := by
  rw [List.set_append_right _ _ (by omega), show A.length + k - A.length = k by omega, List.set_append_left _ _ hk]
theorem encK_succ (id key : ByteArray) (dg : List Int) (ow tx : ByteArray) (rs : List (ByteArray × Int × Int)) (k : Nat) (hk : k < key.size) :
    (encK id key dg ow tx rs k).set (id.size + k) (flp ((nums key).getD k 0)) = encK id key dg ow tx rs (k + 1) := by
  unfold encK
  rw [if_neg (by omega), if_neg (by omega), ← nums_length id, set_mid _ _ _ _ _ (by rw [mix_len]; exact hk), mix_succ key k hk]
theorem encK_at (id key : ByteArray) (dg : List Int) (ow tx : ByteArray) (rs : List (ByteArray × Int × Int)) (k : Nat) (hk : k < key.size) :
    (encK id key dg ow tx rs k).getD (id.size + k) 0 = (nums key).getD k 0 := by
  unfold encK
  rw [if_neg (by omega), ← nums_length id, getD_right, getD_left _ _ _ (by rw [mix_len]; exact hk), mix_at key k hk]

/-- A whole struct is stored into the variable that was made last. -/
theorem wpList_store_whole {P : Program} {ops : Array Oper} {rest : List Oper} {op : Oper} {a : Act} {Q : Exit → Act → World → Prop} (hgd : op.guard = none) (t : TypeId) (x y : Operand) (ho : op.op = .store t x y)
    (w7 : World) (c c' : Array Value) (hx : a.eval x = .pointer (some ⟨w7.heap.size, 0, none⟩)) (hy : a.eval y = .agg c') (hi : (P.info? t).map (·.size) = some c'.size) (hs : c.size = c'.size) (h1 : c'.all (·.oneCell') = true)
    (h : ∀ w8, Hid (w8 = w7.alloc (.cells c' t)) → wpList P ops Q rest (a.put op.dst undef) w8) : wpList P ops Q (op :: rest) a (w7.alloc (.cells c t)) := by
  refine wpList_plain hgd fun K hK => ?_
  unfold Oper.wp execOp
  rw [ho]
  simp only [hx, hy, Sem.run_bind, run_storeAt_new w7 t c c' hi hs h1, Result.andThen_ok]
  exact hK _ _ (h _ rfl)

theorem Res.setNew {w0 w : World} {a : Option Addr} {rs : List (ByteArray × Int × Int)} (h0 : Res w0 a rs) (h : Res w a rs) {p : Addr} (hp : w0.heap.size ≤ p.block) (u : Value) : Res (w.setCell p u) a rs := by
  intro hl
  obtain ⟨b, off, rfl, hc⟩ := h0 hl
  have hb : b < w0.heap.size := World.block_lt_of_cell? _ _ (hc 0 hl).1
  exact Res.setCell h (fun x hx => by cases hx; show b ≠ p.block; omega) u hl
theorem Bys.setNew {w0 w : World} {a : Option Addr} {l : List Int} (h0 : Bys w0 a l) (h : Bys w a l) {p : Addr} (hp : w0.heap.size ≤ p.block) (u : Value) : Bys (w.setCell p u) a l := by
  intro hl
  obtain ⟨b, off, rfl, hc⟩ := h0 hl
  have hb : b < w0.heap.size := World.block_lt_of_cell? _ _ (hc 0 hl)
  exact Bys.setCell h (fun x hx => by cases hx; show b ≠ p.block; omega) u hl

set_option maxHeartbeats 2000000 in
theorem walk4 (cs : Array Value) (id key : ByteArray) (dg : List Int) (ow tx : ByteArray) (a : Option Addr) (n c : Nat) (rs : List (ByteArray × Int × Int)) (h : Tx cs id key dg ow tx a n c) (hl : rs.length = n) (hn : n ≤ maxLen) (ha : a = none → n = 0)
    (hid : id.size ≤ maxLen) (hkey : key.size ≤ maxLen) (how : ow.size ≤ maxLen) (htx : tx.size ≤ maxLen) (hrs : ∀ r ∈ rs, r.1.size ≤ maxLen) (w : World) (hr : Res w a rs) :
    Calls Try.prog 4 #[.agg cs] w fun e w' => e = .returned (.bool true) ∧ Below w.heap.size w w' := by
  have row0 : (w.alloc (.cells cs 25)).heap[w.heap.size]? = some (.cells cs 25 (0, 0)) := heap_alloc_new w _
  have b0 : Below w.heap.size w (w.alloc (.cells cs 25)) := (Below.refl _ _).alloc (by omega) _
  have r0 := hr.below ((Below.refl w.heap.size w).alloc (Nat.le_refl _) (.cells cs 25))
  have s0 : w.heap.size < (w.alloc (.cells cs 25)).heap.size := by simp
  have HTX : Hid _ := h
  have HL : Hid _ := hl
  have HN : Hid _ := hn
  have HA : Hid _ := ha
  have HID : Hid _ := hid
  have HKEY : Hid _ := hkey
  have HOW : Hid _ := how
  have HTXN : Hid _ := htx
  have HRS : Hid _ := hrs
  have HI25 : Hid ((Try.prog.info? 25).map (·.size) = some cs.size) := show _ = _ by rw [h.size]; kernel_rfl
  have HROW : Hid _ := row0
  have HB : Hid _ := b0
  have HR : Hid _ := r0
  have HSZ : Hid _ := s0
  clear h hl ha hid hkey how htx hrs row0 b0 r0 s0 hr hn
  go_enter Try.func4, Try.ntmps4
  go_wp2_with (first
      | (refine wpList_load_row rfl 25 (.tmp 1) rfl w.heap.size rfl 25 cs (0, 0) _ (heap_alloc_new w _) Try.underlying25 rfl HI25.out ?_))
  generalize w.alloc (.cells cs 25) = w0 at HROW HB HR HSZ ⊢
  refine (guard12_any cs id key dg ow tx a n c rs HTX.out HL.out HN.out HID.out HKEY.out HOW.out HTXN.out HRS.out w0 HR.out).mono ?_
  rintro e w1 ⟨⟨r, rfl⟩, hb⟩
  have x20 : w1.cell? ⟨w.heap.size, 20, none⟩ = some (.slice a n c) := by rw [hb.cell HSZ.out, cell_of_row _ _ _ _ _ _ HROW.out]; exact HTX.out.f20
  have HROW1 : Hid (w1.heap[w.heap.size]? = some (.cells cs 25 (0, 0))) := (hb.block w.heap.size HSZ.out).trans HROW.out
  have HB1 : Hid (Below w.heap.size w w1) := HB.out.trans (hb.mono (Nat.le_of_lt HSZ.out))
  have HR1 : Hid (Res w1 a rs) := Res.below HR.out hb
  have HSZ1 : Hid (w.heap.size < w1.heap.size) := Nat.lt_of_lt_of_le HSZ.out hb.size
  clear hb HROW HB HR HSZ
  have hn : n ≤ 9223372036854775807 := HN.out
  go_wp2_with (first
      | (refine wpList_load_row rfl 25 (.tmp 1) rfl w.heap.size rfl 25 cs (0, 0) _ HROW1.out Try.underlying25 rfl HI25.out ?_))
  focus
    go_ret
    exact ⟨rfl, HB1.out⟩
  focus
    go_ret
    exact ⟨rfl, HB1.out⟩
  rename_i hn6
  have hn6' : n ≤ 65536 := by omega
  refine (textBytes_any cs id key dg ow tx a n c rs HTX.out HL.out HN.out HID.out HKEY.out HOW.out HTXN.out HRS.out w1 HR1.out).mono ?_
  rintro e w2 ⟨q, rfl, hb, hq0, hq1, hq⟩
  have HQ : Hid _ := hq
  have x20' : w2.cell? ⟨w.heap.size, 20, none⟩ = some (.slice a n c) := (hb.cell HSZ1.out).trans x20
  have HROW2 : Hid (w2.heap[w.heap.size]? = some (.cells cs 25 (0, 0))) := (hb.block w.heap.size HSZ1.out).trans HROW1.out
  have HB2 : Hid (Below w.heap.size w w2) := HB1.out.trans (hb.mono (Nat.le_of_lt HSZ1.out))
  have HR2 : Hid (Res w2 a rs) := Res.below HR1.out hb
  have HSZ2 : Hid (w.heap.size < w2.heap.size) := Nat.lt_of_lt_of_le HSZ1.out hb.size
  clear hb HROW1 HB1 HR1 HSZ1 hq x20
  go_wp2_with fail
  focus
    go_ret
    exact ⟨rfl, HB2.out⟩
  rename_i hq5
  have hsum := HQ.out (by omega)
  have HSUM : Hid _ := hsum
  clear hsum HQ
  refine (modesOK_any a n c rs HL.out HN.out w2 HR2.out).mono ?_
  rintro e w' ⟨⟨r2, rfl⟩, rfl⟩
  go_wp2_with fail
  focus
    go_ret
    exact ⟨rfl, HB2.out⟩
  refine (cloneRes_fresh a n c rs HL.out hn6' HA.out w2 HR2.out).mono ?_
  rintro e w3 ⟨a', rfl, hr3, hb, hfr⟩
  have x20'' : w3.cell? ⟨w.heap.size, 20, none⟩ = some (.slice a n c) := (hb.cell HSZ2.out).trans x20'
  have HROW3 : Hid (w3.heap[w.heap.size]? = some (.cells cs 25 (0, 0))) := (hb.block w.heap.size HSZ2.out).trans HROW2.out
  have fz : w3.frozen? ⟨w.heap.size, 20, none⟩ = false := frozen_of_row _ _ _ _ _ HROW3.out
  obtain ⟨w4, hw4⟩ : ∃ w4, w4 = w3.setCell ⟨w.heap.size, 20, none⟩ (.slice a' n n) := ⟨_, rfl⟩
  have HROW4 : Hid (w4.heap[w.heap.size]? = some (.cells (cs.setIfInBounds 20 (.slice a' n n)) 25 (0, 0))) := by
    show w4.heap[w.heap.size]? = _
    rw [hw4]; exact row_setCell HROW3.out _
  have HB4 : Hid (Below w.heap.size w w4) := by
    show Below _ _ _
    rw [hw4]; exact (HB2.out.trans (hb.mono (Nat.le_of_lt HSZ2.out))).setCell (Nat.le_refl _) _
  have HR4 : Hid (Res w4 a' rs) := by
    show Res w4 a' rs
    rw [hw4]; exact Res.setCell hr3 (fun x hx => by have := hfr x hx; have := HSZ2.out; show x.block ≠ w.heap.size; omega) _
  have HSZ4 : Hid (w.heap.size < w4.heap.size) := by
    show w.heap.size < _
    rw [hw4]; simp; exact Nat.lt_of_lt_of_le HSZ2.out hb.size
  have HTX4 : Hid _ := HTX.out.names a' n n
  have HI25' : Hid ((Try.prog.info? 25).map (·.size) = some (cs.setIfInBounds 20 (.slice a' n n)).size) := show _ = _ by rw [HTX4.out.size]; kernel_rfl
  generalize hcs : cs.setIfInBounds 20 (.slice a' n n) = cs4 at HROW4 HTX4 HI25'
  have HW4 : Hid _ := hw4
  clear hb HROW2 HB2 HR2 HSZ2 hr3 hfr x20' hcs
  go_wp2_with (first
      | (rw [← HW4.out]; refine wpList_load_row rfl 25 (.tmp 1) rfl w.heap.size rfl 25 cs4 (0, 0) _ HROW4.out Try.underlying25 rfl HI25'.out ?_))
  rw [← HW4.out]
  have hdl := HTX.out.dgl
  have hcn := charge_nonneg rs
  have hz := HSUM.out
  have hlen := encB_len id key dg ow tx rs hdl hz
  have hkb := keyB_len key dg hdl
  have x1 : cs4[1]? = some (.string key) := HTX4.out.f1
  have x2 : ∀ i, i < 16 → cs4[2 + i]? = some (.int .u8 (dg.getD i 0)) := HTX4.out.f2
  have s4 : cs4.size = 21 := HTX4.out.size
  clear HROW3 fz x20'' HW4 hw4 HA HTX HI25 HID HKEY HOW HTXN HRS HN hn hq0 hq1
  refine (encode_any cs4 id key dg ow tx a' n n rs HTX4.out HL.out hn6' (by omega) (by omega) (by omega) (by omega) (by omega) w4 HR4.out).mono ?_
  rintro e w5 ⟨v, k1, k2, k3, k4, rfl, hbuf, hb, e1, e2, e3, e4⟩
  obtain ⟨a5, c5, hv, hbys, hlc, hcm, hnil, hsp⟩ := hbuf.form
  subst hv
  have HROW5 : Hid (w5.heap[w.heap.size]? = some (.cells cs4 25 (0, 0))) := (hb.block w.heap.size HSZ4.out).trans HROW4.out
  have HB5 : Hid (Below w.heap.size w w5) := HB4.out.trans (hb.mono (Nat.le_of_lt HSZ4.out))
  have HSZ5 : Hid (w.heap.size < w5.heap.size) := Nat.lt_of_lt_of_le HSZ4.out hb.size
  have HL5 : Hid _ := hlen
  have HBY : Hid _ := hbys
  generalize hN : (encB id key dg ow tx rs).length = N at hlc hlen hbuf ⊢
  have HOWN : Hid (w5.ownsRow w4.heap.size 5 1 (.slice a5 N c5) N ((encK id key dg ow tx rs 0).map (Value.int .u8))) := by
    have h1 : w5.ownsRow w4.heap.size 5 1 (.slice a5 N c5) (encB id key dg ow tx rs).length ((encB id key dg ow tx rs).map (Value.int .u8)) := hbuf
    rw [hN] at h1
    rw [← encK_zero]
    exact h1
  have HBW : Hid (Below w4.heap.size w4 w5) := hb
  have HNN : Hid _ := hN
  have HX2 : Hid _ := x2
  have HS4 : Hid _ := s4
  have HX1 : Hid _ := x1
  have HLC : Hid _ := hlc
  have HE1 : Hid _ := e1
  have HE2 : Hid _ := e2
  have HKB : Hid _ := hkb
  have HN20 : Hid (N ≤ 2000000) := hlen.1
  have HK20 : Hid (k2 ≤ N) := by have := hlen.2; show k2 ≤ N; omega
  have HNIL : Hid _ := hnil
  have HSP : Hid _ := hsp
  have HDL : Hid _ := hdl
  clear hbuf hb hbys hcm hnil hsp hz hcn hlen hN x2 s4 x1 hlc e1 e2 hkb hdl e3 e4
  obtain ⟨m, hm⟩ : ∃ m, key.size = m := ⟨_, rfl⟩
  have hml : m ≤ 1048576 := by have := HSUM.out; have := charge_nonneg rs; omega
  have HG : Hid (0 < m → ∃ g, a5 = some ⟨g, 0, none⟩) := by
    intro hp
    have hp2 : 0 < (encB id key dg ow tx rs).length := by have h1 := HE2.out; have h2 := HKB.out; rw [if_neg (by omega)] at h2; have h3 := HK20.out; have h4 := HNN.out; omega
    obtain ⟨b, off, hx, -⟩ := HBY.out hp2
    obtain ⟨-, ho, -, -⟩ := HSP.out ⟨b, off, none⟩ hx
    simp at ho
    exact ⟨b, by rw [hx, ho]⟩
  have HWAY : Hid ((m = 0 ∧ k2 ≤ k1) ∨ (0 < m ∧ k2 = k1 + m + 16 ∧ k2 ≤ N ∧ ∃ g, a5 = some ⟨g, 0, none⟩)) := by
    have h1 := HE1.out; have h2 := HE2.out; have h3 := HKB.out; have h4 := HK20.out
    by_cases hz : m = 0
    · rw [if_pos (by omega)] at h3; exact .inl ⟨hz, by omega⟩
    · rw [if_neg (by omega)] at h3; exact .inr ⟨by omega, by omega, h4, HG.out (by omega)⟩
  go_wp2_with fail
  refine (kt_both a5 N c5 k1 k2 k3 k4 m w5 (by have := HN20.out; omega) HLC.out HWAY.out).mono ?_
  rintro e w6 ⟨ak, ck, rfl, hak, hb⟩
  have HAK : Hid _ := hak
  have HOWN6 : Hid (w6.ownsRow w4.heap.size 5 1 (.slice a5 N c5) N ((encK id key dg ow tx rs 0).map (Value.int .u8))) := by
    have hl : (encK id key dg ow tx rs 0).length = N := (encK_len _ _ _ _ _ _ _).trans HNN.out
    have h1 : Buf w4.heap.size w5 (.slice a5 N c5) (encK id key dg ow tx rs 0) := by unfold Buf; rw [hl]; exact HOWN.out
    have h2 := h1.below hb (Nat.le_refl _)
    unfold Buf at h2; rw [hl] at h2; exact h2
  have HBW6 : Hid (Below w4.heap.size w4 w6) := HBW.out.trans (hb.mono HBW.out.size)
  have x1 : w6.cell? ⟨w.heap.size, 1, none⟩ = some (.string key) := by rw [HBW6.out.cell HSZ4.out, cell_of_row _ _ _ _ _ _ HROW4.out]; exact HX1.out
  clear hak hb HOWN HBW HROW5 HB5 HSZ5 HBY HNIL HSP HL5 HWAY
  go_wp2_with fail
  go_loopw [9] (fun i wr => ∃ k : Nat, k ≤ m ∧ i = .int .i64 k ∧ Hid (wr.ownsRow w4.heap.size 5 1 (.slice a5 N c5) N ((encK id key dg ow tx rs k).map (Value.int .u8))) ∧ Hid (Below w4.heap.size w4 wr)) (fun i _ => m - (intOf i).toNat)
  case atStart => exact ⟨0, Nat.zero_le _, rfl, HOWN6, HBW6⟩
  case round =>
    clear HOWN6 HBW6 x1
    obtain ⟨k, hk, rfl, HOWN, HBW⟩ := hrel
    by_cases hlt : k < m
    · obtain ⟨g, rfl⟩ := HG.out (by omega)
      obtain rfl := HAK.out g rfl (by omega)
      obtain ⟨x, hx⟩ : ∃ x, x = (nums key).getD k 0 := ⟨_, rfl⟩
      obtain ⟨y, hy⟩ : ∃ y, y = flp x := ⟨_, rfl⟩
      have hkey : k < key.size := by omega
      have hkN : k1 + k < N := by
        have h1 := HE1.out; have h2 := HE2.out; have h3 := HKB.out; rw [if_neg (by omega)] at h3; have h4 := HK20.out; omega
      have hBg : w4.heap.size ≤ g := by
        rcases HOWN.out.2 with ⟨h, -⟩ | ⟨g', cap', cur, h, hb, -⟩
        · cases h
        · cases h; exact hb
      have g1 : wr.cell? ⟨g, k1 + k, none⟩ = some (.int .u8 x) := by
        rw [HOWN.out.cellAt (k1 + k) (by omega), hx, ← encK_at id key dg ow tx rs k hkey, ← HE1.out]
        have hl : k1 + k < (encK id key dg ow tx rs k).length := by rw [encK_len, HNN.out]; exact hkN
        simp [List.getD_eq_getElem?_getD, hl]
      have g3 := HOWN.out.frozenAt (k1 + k)
      have R := (HOWN.out.stored (k1 + k) (.int .u8 y)).1
      rw [map_set_u8, hy, hx, HE1.out, encK_succ id key dg ow tx rs k hkey, ← hx, ← hy, ← HE1.out] at R
      have RB := HBW.out.setCell (p := ⟨g, k1 + k, none⟩) hBg (.int .u8 y)
      have HR : Hid (_) := R
      have HB : Hid (_) := RB
      have HFY : Hid (bits BinOp.xor IntKind.u8 (if IntKind.u8.signed = true then -1 else IntKind.u8.max) x = y) := hy.symm
      have i1 : (0 : Int) ≤ (k : Int) := by omega
      have i2 : (k : Int) < (m : Int) := by omega
      clear R RB HOWN HBW hx hy hBg hkN
      go_wp2
      rw [HFY.out]
      go_roundw
      case rel => exact ⟨k + 1, by omega, by go_num, HR.out, HB.out⟩
      case measure => simp [intOf]; omega
    · obtain rfl : k = m := by omega
      have HBUF : Hid (Buf w4.heap.size wr (.slice a5 N c5) (encB id (flipped key) dg ow tx rs)) := by
        show Buf w4.heap.size wr (.slice a5 N c5) (encB id (flipped key) dg ow tx rs)
        rw [← encK_all, hm]
        unfold Buf
        rw [encK_len, HNN.out]; exact HOWN.out
      have HLN : Hid ((encB id (flipped key) dg ow tx rs).length = N) := by
        show _ = _
        rw [← encK_all, encK_len]; exact HNN.out
      have HBY : Hid (Bys wr a5 (encB id (flipped key) dg ow tx rs)) := by
        obtain ⟨a9, c9, h1, h2, -⟩ := Buf.form HBUF.out
        cases h1
        exact h2
      have HROW7 : Hid (wr.heap[w.heap.size]? = some (.cells cs4 25 (0, 0))) := (HBW.out.block _ HSZ4.out).trans HROW4.out
      have x1 : wr.cell? ⟨w.heap.size, 1, none⟩ = some (.string key) := by rw [cell_of_row _ _ _ _ _ _ HROW7.out]; exact HX1.out
      have HR7 : Hid (Res wr a' rs) := Res.below HR4.out HBW.out
      have HB7 : Hid (Below w.heap.size w wr) := HB4.out.trans (HBW.out.mono (Nat.le_of_lt HSZ4.out))
      have HSZ7 : Hid (w.heap.size < wr.heap.size) := Nat.lt_of_lt_of_le HSZ4.out HBW.out.size
      have HONE : Hid (cs4.all (·.oneCell') = true) := Tx.one HTX4.out
      clear HOWN HBW HROW4 HR4 HB4 HSZ4 HBUF
      go_wp2_with (first
        | (refine wpList_load_row rfl 25 (.tmp 1) rfl w.heap.size rfl 25 cs4 (0, 0) _ HROW7.out Try.underlying25 rfl HI25'.out ?_)
        | (refine wpList_store_whole rfl 25 (.tmp 10) (.tmp 68) rfl wr _ cs4 rfl rfl HI25'.out (by rw [HS4.out]; rfl) HONE.out ?_))
      intro w8 HW8
      have HB8 : Hid (Below wr.heap.size wr w8) := by show Below _ _ _; rw [HW8.out]; exact (Below.refl _ _).alloc (Nat.le_refl _) _
      have HROW8 : Hid (w8.heap[wr.heap.size]? = some (.cells cs4 25 (0, 0))) := by show w8.heap[wr.heap.size]? = _; rw [HW8.out]; exact heap_alloc_new _ _
      have HS8 : Hid (wr.heap.size < w8.heap.size) := by show _ < _; rw [HW8.out]; simp
      have y1 : w8.cell? ⟨w.heap.size, 1, none⟩ = some (.string key) := (HB8.out.cell HSZ7.out).trans x1
      clear HW8
      go_wp2_with fail
      refine (flip_any key k ((nums key).map flp) hm rfl hml w8).mono ?_
      rintro e w9 ⟨rfl, hb⟩
      obtain ⟨fk, hfk⟩ : ∃ fk, strOfNums ((nums key).map flp) = fk := ⟨_, rfl⟩
      rw [hfk]
      have HFK : Hid (flipped key = fk) := hfk
      clear hfk
      have HROW9 : Hid (w9.heap[wr.heap.size]? = some (.cells cs4 25 (0, 0))) := (hb.block _ HS8.out).trans HROW8.out
      have HBX9 : Hid (Below wr.heap.size wr w9) := HB8.out.trans (hb.mono (Nat.le_of_lt HS8.out))
      have z1 : w9.cell? ⟨wr.heap.size, 1, none⟩ = some (.string key) := by rw [cell_of_row _ _ _ _ _ _ HROW9.out]; exact HX1.out
      have fz : w9.frozen? ⟨wr.heap.size, 1, none⟩ = false := frozen_of_row _ _ _ _ _ HROW9.out
      obtain ⟨w10, hw10⟩ : ∃ w10, w10 = w9.setCell ⟨wr.heap.size, 1, none⟩ (.string fk) := ⟨_, rfl⟩
      have HROW10 : Hid (w10.heap[wr.heap.size]? = some (.cells (cs4.setIfInBounds 1 (.string fk)) 25 (0, 0))) := by
        show w10.heap[wr.heap.size]? = _
        rw [hw10]; exact row_setCell HROW9.out _
      have HB10 : Hid (Below wr.heap.size wr w10) := by
        show Below _ _ _
        rw [hw10]; exact HBX9.out.setCell (Nat.le_refl _) _
      have HTX5 : Hid _ := HTX4.out.keyed fk
      have HI5' : Hid ((Try.prog.info? 25).map (·.size) = some (cs4.setIfInBounds 1 (.string fk)).size) := show _ = _ by rw [HTX5.out.size]; kernel_rfl
      generalize hcs : cs4.setIfInBounds 1 (.string fk) = cs5 at HROW10 HTX5 HI5'
      have HW10 : Hid _ := hw10
      clear hb hw10 hcs HROW9 HBX9 HROW8 HB8 HS8 x1 y1
      go_wp2_with (first
        | (rw [← HW10.out]; refine wpList_load_row rfl 25 (.tmp 10) rfl wr.heap.size rfl 25 cs5 (0, 0) _ HROW10.out Try.underlying25 rfl HI5'.out ?_))
      have hsz := flipped_size key
      rw [HFK.out] at hsz
      have hsum := HSUM.out
      have hcn := charge_nonneg rs
      refine (encode_any cs5 id fk dg ow tx a' n n rs HTX5.out HL.out hn6' (by omega) (by omega) (by omega) (by omega) (by omega) w10 (Res.below HR7.out HB10.out)).mono ?_
      rintro e w11 ⟨v2, j1, j2, j3, j4, rfl, hbuf, hb, -⟩
      have HLN2 := HLN.out
      have HBY2 := HBY.out
      rw [HFK.out] at HLN2 HBY2
      obtain ⟨a11, c11, hv, hbys, -⟩ := hbuf.form
      rw [HLN2] at hv
      subst hv
      have hB1 : Bys w11 a5 (encB id fk dg ow tx rs) := Bys.below (Bys.below HBY2 HB10.out) hb
      have HBB1 : Hid _ := hB1
      have HBB2 : Hid _ := hbys
      have HBE : Hid (Below w.heap.size w w11) := (HB7.out.trans (HB10.out.mono (Nat.le_of_lt HSZ7.out))).trans (hb.mono (Nat.le_trans (Nat.le_of_lt HSZ7.out) HB10.out.size))
      have HLNN : Hid _ := HLN2
      clear hb hbuf hB1 hbys HBY2 HLN2 hsum hcn hsz z1 fz
      go_wp2_with fail
      refine (beq_same a5 a11 N c5 c11 (encB id fk dg ow tx rs) HLNN.out (by have := HN20.out; unfold maxLen; omega) w11 HBB1.out HBB2.out).mono ?_
      rintro e w12 ⟨rfl, q', rfl⟩
      go_wp2
      go_ret
      exact ⟨rfl, below_drewN HBE.out _⟩

end Go.Proofs.Qxb6605874a
