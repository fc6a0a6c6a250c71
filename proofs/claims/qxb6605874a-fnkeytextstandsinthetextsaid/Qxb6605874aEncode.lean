import Derived.Test.Qxb6605874aClone
import Derived.Deep.MidRow
import Derived.Lib.EndianMore
namespace Go.Proofs.Qxb6605874a
open Go.RowKit
set_option linter.unusedVariables false

theorem there_new (w : World) (cs : Array Value) (t : TypeId) (n : Nat) (h : n = cs.size) : (w.alloc (.cells cs t)).there w.heap.size 0 n := by
  intro j hj
  rw [Nat.zero_add, cell_of_row _ w.heap.size j cs t (0, 0) (heap_alloc_new w _)]
  refine ⟨?_, frozen_of_row _ _ _ _ _ (heap_alloc_new w _)⟩
  rw [Array.getElem?_eq_getElem (by omega)]
  rfl

theorem dig_below (w : World) (Z : Array Value) (t : TypeId) (dg : List Int) : Below w.heap.size w ((w.alloc (.cells Z t)).setCells w.heap.size 0 (dg.map (Value.int .u8))) :=
  ((Below.refl _ _).alloc (Nat.le_refl _) _).trans (Lib.below_setCells_w (Nat.le_refl _) _ _ _)
theorem dig_bys (w : World) (Z : Array Value) (t : TypeId) (dg : List Int) (h : dg.length = Z.size) : Bys ((w.alloc (.cells Z t)).setCells w.heap.size 0 (dg.map (Value.int .u8))) (some ⟨w.heap.size, 0, none⟩) dg := by
  intro hp
  refine ⟨w.heap.size, 0, rfl, fun i hi => ?_⟩
  have := World.rangeAt_setCells_same (w.alloc (.cells Z t)) w.heap.size 0 (dg.map (Value.int .u8)) (there_new w Z t _ (by simpa using h))
  exact this i _ (by simp [hi])

theorem dg_oneCell (dg : List Int) : (dg.map (Value.int .u8)).toArray.all (·.oneCell') = true := all_oneCell_toArray (ints_oneCell _ _)

theorem Keeps.of_below {w w' : World} (h : Below w.heap.size w w') : Keeps w w' := by
  intro g cs t fr ht hg
  have hlt : g < w.heap.size := by
    rcases Nat.lt_or_ge g w.heap.size with h2 | h2
    · exact h2
    · rw [Array.getElem?_eq_none h2] at hg; cases hg
  rw [h.block g hlt]
  exact hg

theorem Bys.new2 (w : World) (o : Obj) (cs : Array Value) (l : List Int) (h : cs = (l.map (Value.int .u8)).toArray) : Bys ((w.alloc o).alloc (.cells cs 5)) (some ⟨w.heap.size + 1, 0, none⟩) l := by
  have := Bys.new (w.alloc o) cs l h
  simpa using this

theorem wrap_u64_range (l : Int) : 0 ≤ IntKind.u64.wrap l ∧ IntKind.u64.wrap l < 18446744073709551616 := by
  simp [IntKind.wrap, IntKind.bits, IntKind.signed]
  omega

theorem Buf.base {B B' : Nat} {w : World} {v : Value} {l : List Int} (h : Buf B w v l) (hB : B' ≤ B) : Buf B' w v l := by
  refine ⟨h.1, ?_⟩
  rcases h.2 with h2 | ⟨g, cap, cur, hv, hg, r⟩
  · exact .inl h2
  · exact .inr ⟨g, cap, cur, hv, Nat.le_trans hB hg, r⟩

/-- One resource as it is laid out. -/
def resB (r : ByteArray × Int × Int) : List Int :=
  (if r.2.2 = 0 then [r.2.1 % 256] else bits .or .u8 (r.2.1 % 256) 128 :: uv 9 (IntKind.u64.wrap r.2.2)) ++ (uv 9 r.1.size ++ nums r.1)
theorem resB_len (r : ByteArray × Int × Int) : (resB r).length ≤ 32 + r.1.size := by
  have h1 := uv_len 9 (IntKind.u64.wrap r.2.2)
  have h2 := uv_len 9 r.1.size
  unfold resB
  split <;> simp [nums_length] <;> omega
/-- The resources as they are laid out. -/
def resL : List (ByteArray × Int × Int) → List Int
  | [] => []
  | r :: l => resB r ++ resL l
theorem resL_snoc (l : List (ByteArray × Int × Int)) (r : ByteArray × Int × Int) : resL (l ++ [r]) = resL l ++ resB r := by
  induction l with
  | nil => simp [resL]
  | cons x l ih => simp only [List.cons_append, resL, ih, List.append_assoc]
theorem resL_len (l : List (ByteArray × Int × Int)) : ((resL l).length : Int) ≤ charge l := by
  induction l with
  | nil => simp [resL, charge]
  | cons x l ih => have := resB_len x; simp only [resL, charge, List.length_append]; omega
theorem charge_take (l : List (ByteArray × Int × Int)) (k : Nat) : charge (l.take k) ≤ charge l := by
  induction l generalizing k with
  | nil => simp [charge]
  | cons x l ih =>
    cases k with
    | zero => have := charge_nonneg (x :: l); simpa [charge] using this
    | succ k => have := ih k; simp only [List.take_succ_cons, charge]; omega
/-- The key's place in the text: nothing where there is no key. -/
def keyB (key : ByteArray) (dg : List Int) : List Int := if key.size = 0 then [] else nums key ++ dg
/-- The whole text. -/
def encB (id key : ByteArray) (dg : List Int) (ow tx : ByteArray) (rs : List (ByteArray × Int × Int)) : List Int := nums id ++ (keyB key dg ++ (nums ow ++ (nums tx ++ resL rs)))

theorem empty_size (key : ByteArray) : key.toList.isEmpty = decide (key.size = 0) := by
  have e : key.toList = key.data.toList := ByteArray.toList_eq key
  have hl : key.data.toList.length = key.size := by rw [Array.length_toList]; rfl
  rw [e, ← hl]
  cases key.data.toList <;> simp

set_option maxHeartbeats 2000000 in
theorem encode_any (cs : Array Value) (id key : ByteArray) (dg : List Int) (ow tx : ByteArray) (a : Option Addr) (n c : Nat) (rs : List (ByteArray × Int × Int)) (h : Tx cs id key dg ow tx a n c) (hl : rs.length = n) (hn : n ≤ 65536)
    (hid : id.size ≤ 1048576) (hkey : key.size ≤ 1048576) (how : ow.size ≤ 1048576) (htx : tx.size ≤ 1048576) (hch : charge rs ≤ 1048576) (w : World) (hr : Res w a rs) :
    Calls Try.prog 9 #[.agg cs] w fun e w' => ∃ (v : Value) (k1 k2 k3 k4 : Nat), e = .returned (.tuple #[v, .int .i32 k1, .int .i32 k2, .int .i32 k3, .int .i32 k4]) ∧ Buf w.heap.size w' v (encB id key dg ow tx rs) ∧ Below w.heap.size w w' ∧
      k1 = id.size ∧ k2 = id.size + (keyB key dg).length ∧ k3 = k2 + ow.size ∧ k4 = k3 + tx.size := by
  obtain ⟨hsz, hdgl, f0, f1, f2, f18, f19, f20⟩ := h
  obtain ⟨T, hT⟩ : ∃ T, T = w.heap.size := ⟨_, rfl⟩
  have row0 : (w.alloc (.cells cs 25)).heap[T]? = some (.cells cs 25 (0, 0)) := by rw [hT]; exact heap_alloc_new w _
  have b0 : Below T w (w.alloc (.cells cs 25)) := (Below.refl _ _).alloc (by omega) _
  have r0 := hr.below ((Below.refl w.heap.size w).alloc (Nat.le_refl _) (.cells cs 25))
  have s0 : (w.alloc (.cells cs 25)).heap.size = T + 1 := by simp [hT]
  have HT : Hid (T = w.heap.size) := hT
  have HDL : Hid (dg.length = 16) := hdgl
  have HF2 : Hid (∀ i, i < 16 → cs[2 + i]? = some (.int .u8 (dg.getD i 0))) := f2
  have HROW : Hid ((w.alloc (.cells cs 25)).heap[T]? = some (.cells cs 25 (0, 0))) := row0
  have HB0 : Hid (Below T w (w.alloc (.cells cs 25))) := b0
  have HS0 : Hid ((w.alloc (.cells cs 25)).heap.size = T + 1) := s0
  have HR0 : Hid (Res (w.alloc (.cells cs 25)) a rs) := r0
  have HL : Hid (rs.length = n) := hl
  have HCH : Hid (charge rs ≤ 1048576) := hch
  clear hsz hdgl f2 hr hl row0 b0 r0 s0 hch
  rw [← hT]
  go_enter Try.func9, Try.ntmps9
  go_wp2_with (at_builtin; refine wpList_pushStr _ rfl (.tmp 16) (.tmp 18) rfl (T + 1) (.slice none 0 0) [] rfl (Buf.nil _ _) id rfl (by simp; omega) (by rw [HS0.out]; exact Nat.le_refl _) ?_)
  rw [← hT]
  generalize w.alloc (.cells cs 25) = w0 at HROW HB0 HS0 HR0 ⊢
  clear hT f0
  intro v1 w1 h1 b1 k1
  obtain ⟨a1, c1, hv1, -⟩ := h1.form
  obtain ⟨K, hK⟩ : ∃ K, (nums id).length = K := ⟨_, rfl⟩
  rw [hK] at hv1
  have HK : Hid ((nums id).length = K) := hK
  have hK1 : K ≤ 1048576 := by rw [← hK, nums_length]; exact hid
  subst hv1
  have row1 : w1.heap[T]? = some (.cells cs 25 (0, 0)) := k1 T cs 25 (0, 0) (by decide) HROW.out
  have H1 : Hid (Buf (T + 1) w1 (.slice a1 K c1) (nums id)) := h1
  have B1 : Hid (Below (T + 1) w0 w1) := b1
  have K1 : Hid (Keeps w0 w1) := k1
  have g1 : T + 1 ≤ w1.heap.size := by have := b1.size; have := HS0.out; omega
  have ROW1 : Hid (w1.heap[T]? = some (.cells cs 25 (0, 0))) := row1
  have x1 : w1.cell? ⟨T, 1, none⟩ = some (.string key) := by rw [cell_of_row _ _ _ _ _ _ row1]; exact f1
  clear h1 b1 row1 k1 hK
  by_cases hke : key.size = 0
  focus
    have hk : key.toList.isEmpty = true := by rw [empty_size]; simpa using hke
    have HKB : Hid ((keyB key dg) = []) := by show keyB key dg = []; unfold keyB; rw [if_pos hke]
    obtain ⟨LA, hLA⟩ : ∃ LA, LA = nums id := ⟨_, rfl⟩
    obtain ⟨O, hO⟩ : ∃ O, O = K := ⟨_, rfl⟩
    have HLAe : Hid (LA = nums id ++ keyB key dg) := by show LA = nums id ++ keyB key dg; rw [HKB.out, hLA, List.append_nil]
    have HLA : Hid (LA.length = O) := by show LA.length = O; rw [hLA, hO]; exact HK.out
    have hO1 : O ≤ 2200000 := by omega
    have HOK : Hid (O = K) := hO
    rw [← hLA] at H1
    have KA := K1
    have BA := B1
    clear hLA hke HKB hO
    have x18 : w1.cell? ⟨T, 18, none⟩ = some (.string ow) := by rw [cell_of_row _ _ _ _ _ _ ROW1.out]; exact f18
    go_wp2_with (at_builtin; refine wpList_pushStr _ rfl (.tmp 38) (.tmp 40) rfl (T + 1) _ LA rfl H1.out ow rfl (by rw [HLA.out]; omega) g1 ?_)
    intro v3 w3 h3 b3 k3
    have KB := Hid.out (p := Keeps w0 w3) (KA.out.trans k3)
    have BB := Hid.out (p := Below (T + 1) w0 w3) (BA.out.trans b3)
    clear b3 k3 KA BA
  rotate_left
  focus
    have hk : key.toList.isEmpty = false := by rw [empty_size]; simpa using hke
    have HKB : Hid ((keyB key dg) = nums key ++ dg) := by show keyB key dg = nums key ++ dg; unfold keyB; rw [if_neg hke]
    clear hke
    go_wp2_with (at_builtin; refine wpList_pushStr _ rfl (.tmp 26) (.tmp 28) rfl (T + 1) _ (nums id) rfl H1.out key rfl (by rw [nums_length]; omega) g1 ?_)
    intro v2 w2 h2 b2 k2
    obtain ⟨a2, c2, hv2, -⟩ := h2.form
    obtain ⟨M2, hM2⟩ : ∃ M2, (nums id ++ nums key).length = M2 := ⟨_, rfl⟩
    rw [hM2] at hv2
    subst hv2
    have row2 : w2.heap[T]? = some (.cells cs 25 (0, 0)) := k2 T cs 25 (0, 0) (by decide) ROW1.out
    have hrange : w2.rangeAt T 2 (dg.map (Value.int .u8)) := by
      intro j v hj
      have hjl : j < dg.length := by
        have := (List.getElem?_eq_some_iff.1 hj).1
        simpa using this
      rw [cell_of_row _ _ _ _ _ _ row2, HF2.out j (by have := HDL.out; omega), ← hj]
      simp [hjl]
    have HRANGE : Hid (w2.rangeAt T 2 (dg.map (Value.int .u8))) := hrange
    have HI22 : Hid ((Try.prog.info? 22).map (·.size) = some (dg.map (Value.int .u8)).length) := by
      show (Try.prog.info? 22).map (·.size) = some (dg.map (Value.int .u8)).length
      rw [List.length_map, HDL.out]; kernel_rfl
    have H2 : Hid (Buf (T + 1) w2 (.slice a2 M2 c2) (nums id ++ nums key)) := h2
    have B2 : Hid (Below (T + 1) w0 w2) := B1.out.trans b2
    have K2 : Hid (Keeps w0 w2) := K1.out.trans k2
    have g2 : T + 1 ≤ w2.heap.size := by have := b2.size; omega
    clear h2 b2 k2 row2 x1 hrange hM2
    go_wp2_with (first
      | (refine wpList_load_mid rfl 22 (.tmp 30) rfl T 2 rfl (dg.map (Value.int .u8)) _ HRANGE.out Try.underlying22 rfl HI22.out ?_)
      | (refine wpList_store_mid rfl 22 (.tmp 9) (.tmp 31) rfl w2.heap.size 0 (dg.map (Value.int .u8)).toArray rfl rfl (there_new w2 _ 22 _ (by simp [HDL.out])) (by simpa using HI22.out) (dg_oneCell dg) ?_)
      | (at_builtin; refine wpList_push _ rfl (.tmp 32) (.tmp 33) rfl (T + 1) _ (nums id ++ nums key) rfl (H2.out.below (dig_below w2 _ 22 dg) (Nat.le_refl _)) ⟨w2.heap.size, 0, none⟩ 16 16 dg rfl HDL.out (dig_bys w2 _ 22 dg (by simp [HDL.out])) (by have := HDL.out; simp [nums_length]; omega) (Nat.le_trans g2 (dig_below w2 _ 22 dg).size) ?_))
    intro vA wA hA bA kA
    have eA : nums id ++ (nums key ++ dg) = nums id ++ keyB key dg := by rw [HKB.out]
    rw [eA] at hA
    obtain ⟨LA, hLA⟩ : ∃ LA, LA = nums id ++ keyB key dg := ⟨_, rfl⟩
    rw [← hLA] at hA
    obtain ⟨aA, cA, hvA, -⟩ := hA.form
    obtain ⟨O, hO⟩ : ∃ O, LA.length = O := ⟨_, rfl⟩
    rw [hO] at hvA
    subst hvA
    have HLAe : Hid (LA = nums id ++ keyB key dg) := hLA
    have HLA : Hid (LA.length = O) := hO
    have hO1 : O ≤ 2200000 := by have := HDL.out; rw [← hO, hLA, HKB.out]; simp [nums_length]; omega
    have HA : Hid (Buf (T + 1) wA (.slice aA O cA) LA) := hA
    have BA : Hid (Below (T + 1) w0 wA) := (B2.out.trans ((dig_below w2 _ 22 dg).mono g2)).trans bA
    have KA : Hid (Keeps w0 wA) := (K2.out.trans (Keeps.of_below (dig_below w2 _ 22 dg))).trans kA
    have gA : T + 1 ≤ wA.heap.size := by have := BA.out.size; have := HS0.out; omega
    have x18 : wA.cell? ⟨T, 18, none⟩ = some (.string ow) := by rw [cell_of_row _ _ _ _ _ _ (KA.out T cs 25 (0, 0) (by decide) HROW.out)]; exact f18
    clear hA bA kA eA hLA hO HRANGE HI22 H2 B2 K2 HKB
    go_wp2_with (at_builtin; refine wpList_pushStr _ rfl (.tmp 38) (.tmp 40) rfl (T + 1) _ LA rfl HA.out ow rfl (by rw [HLA.out]; omega) gA ?_)
    intro v3 w3 h3 b3 k3
    have KB := Hid.out (p := Keeps w0 w3) (KA.out.trans k3)
    have BB := Hid.out (p := Below (T + 1) w0 w3) (BA.out.trans b3)
    clear b3 k3 KA BA
  all_goals
    obtain ⟨a3, c3, hv3, -⟩ := h3.form
    obtain ⟨L3, hL3⟩ : ∃ L3, L3 = LA ++ nums ow := ⟨_, rfl⟩
    rw [← hL3] at h3 hv3
    obtain ⟨O3, hO3⟩ : ∃ O3, L3.length = O3 := ⟨_, rfl⟩
    rw [hO3] at hv3
    subst hv3
    have HL3 : Hid (L3 = LA ++ nums ow) := hL3
    have HO3 : Hid (L3.length = O3) := hO3
    have HO3e : Hid (O3 = O + ow.size) := by show O3 = O + ow.size; rw [← hO3, hL3, List.length_append, HLA.out, nums_length]
    have hO31 : O3 ≤ 3300000 := by have := HO3e.out; omega
    have H3 : Hid (Buf (T + 1) w3 (.slice a3 O3 c3) L3) := h3
    have B3 : Hid (Below (T + 1) w0 w3) := BB
    have K3 : Hid (Keeps w0 w3) := KB
    have g3 : T + 1 ≤ w3.heap.size := by have := BB.size; have := HS0.out; omega
    have x19 : w3.cell? ⟨T, 19, none⟩ = some (.string tx) := by rw [cell_of_row _ _ _ _ _ _ (KB T cs 25 (0, 0) (by decide) HROW.out)]; exact f19
    clear h3 hL3 hO3 BB KB x18
    go_wp2_with (at_builtin; refine wpList_pushStr _ rfl (.tmp 45) (.tmp 47) rfl (T + 1) _ L3 rfl H3.out tx rfl (by rw [HO3.out]; omega) g3 ?_)
    intro v4 w4 h4 b4 k4
    obtain ⟨a4, c4, hv4, -⟩ := h4.form
    obtain ⟨L4, hL4⟩ : ∃ L4, L4 = L3 ++ nums tx := ⟨_, rfl⟩
    rw [← hL4] at h4 hv4
    obtain ⟨O4, hO4⟩ : ∃ O4, L4.length = O4 := ⟨_, rfl⟩
    rw [hO4] at hv4
    subst hv4
    have HL4 : Hid (L4 = L3 ++ nums tx) := hL4
    have HO4 : Hid (L4.length = O4) := hO4
    have HO4e : Hid (O4 = O3 + tx.size) := by show O4 = O3 + tx.size; rw [← hO4, hL4, List.length_append, HO3.out, nums_length]
    have hO41 : O4 ≤ 4400000 := by have := HO4e.out; omega
    have H4 : Hid (Buf (T + 1) w4 (.slice a4 O4 c4) L4) := h4
    have B4 : Hid (Below (T + 1) w0 w4) := B3.out.trans b4
    have K4 : Hid (Keeps w0 w4) := K3.out.trans k4
    clear h4 hL4 hO4 b4 k4 x19
    go_wp2_with fail
    go_loopw [7, 13] (fun v i wr => ∃ (k : Nat) (vb : Value), k ≤ n ∧ i = .int .i64 k ∧ vb = v ∧ Hid (Buf (T + 1) wr vb (L4 ++ resL (rs.take k))) ∧ Hid (Below (T + 1) w0 wr) ∧ Hid (Keeps w0 wr)) (fun _ i _ => n - (intOf i).toNat)
    case atStart => exact ⟨0, _, Nat.zero_le _, rfl, rfl, by show Buf (T + 1) w4 _ (L4 ++ []); rw [List.append_nil]; exact H4.out, B4, K4⟩
    case round =>
      obtain ⟨k, vb, hk2, rfl, rfl, HBU, HBE, HKE⟩ := hrel
      have gw : T + 1 ≤ wr.heap.size := by have := HBE.out.size; have := HS0.out; omega
      have x20 : wr.cell? ⟨T, 20, none⟩ = some (.slice a n c) := by rw [cell_of_row _ _ _ _ _ _ (HKE.out T cs 25 (0, 0) (by decide) HROW.out)]; exact f20
      by_cases hlt : k < n
      · have hkl : k < rs.length := by have := HL.out; omega
        have hres : Res wr a rs := HR0.out.below (by rw [HS0.out]; exact HBE.out)
        obtain ⟨b, off, rfl, hc⟩ := hres (by omega)
        obtain ⟨y1, y2, y3⟩ := hc k hkl
        obtain ⟨⟨s, m, l⟩, hp⟩ : ∃ p, p = rs[k] := ⟨_, rfl⟩
        rw [← hp] at y1 y2 y3
        have HP : Hid ((s, m, l) = rs[k]) := hp
        have hlen1 : ((L4 ++ resL (rs.take k)).length : Int) ≤ 5500000 := by
          have h1 := resL_len (rs.take k)
          have h2 := charge_take rs k
          have h3 := HCH.out
          have h4 := HO4.out
          rw [List.length_append]
          omega
        have hs : s.size ≤ 1048576 := by
          have h1 := charge_take rs (k + 1)
          rw [List.take_succ_eq_append_getElem hkl, charge_snoc, ← hp] at h1
          have h2 := charge_nonneg (rs.take k)
          have h3 := HCH.out
          simp only at h1
          omega
        obtain ⟨LB, hLB⟩ : ∃ LB, LB = L4 ++ resL (rs.take k) := ⟨_, rfl⟩
        rw [← hLB] at HBU hlen1
        have HLB : Hid (LB = L4 ++ resL (rs.take k)) := hLB
        clear hc hres hp hLB
        have hlen2 : LB.length ≤ 5500000 := by omega
        clear hlen1
        by_cases hl0 : l = 0
        focus
          have hl1 : (l != 0) = false := by simpa using hl0
          have HRB : Hid (resB (s, m, l) = [m % 256] ++ (uv 9 s.size ++ nums s)) := by show resB (s, m, l) = _; unfold resB; rw [if_pos hl0]
          clear hl0
          go_wp2_with (at_builtin; refine wpList_push _ rfl (.tmp 80) (.tmp 82) rfl (T + 1) vb LB rfl ((HBU.out.alloc _).alloc _) ⟨wr.heap.size + 1, 0, none⟩ 1 1 [m % 256] rfl rfl (Bys.new2 wr _ _ [m % 256] rfl) (by simp; omega) (by simp; omega) ?_)
          intro v6 w6 h6 b6 k6
          have HEQ : Hid ((LB ++ [m % 256]) ++ (uv 9 s.size ++ nums s) = LB ++ resB (s, m, l)) := by show (LB ++ [m % 256]) ++ (uv 9 s.size ++ nums s) = LB ++ resB (s, m, l); rw [HRB.out]; simp
          obtain ⟨L6, hL6⟩ : ∃ L6, L6 = LB ++ [m % 256] := ⟨_, rfl⟩
          rw [← hL6] at h6 HEQ
          have hl6 : L6.length ≤ 5600000 := by rw [hL6]; simp; omega
          have B6 : Hid (Below (T + 1) w0 w6) := ((HBE.out.alloc gw _).alloc (by simp; omega) _).trans b6
          have K6 : Hid (Keeps w0 w6) := ((HKE.out.alloc _).alloc _).trans k6
          have R6 : Hid (w6.heap[wr.heap.size]? = some (.cells #[.string s, .int .i64 m, .int .i64 l] 39 (0, 0))) := k6 wr.heap.size _ 39 (0, 0) (by decide) (by rw [Below.heap_alloc _ _ _ (by simp)]; exact heap_alloc_new wr _)
          clear b6 k6 hL6 HRB
        rotate_left
        focus
          have hl1 : (l != 0) = true := by simpa using hl0
          have HRB : Hid (resB (s, m, l) = (bits .or .u8 (m % 256) 128 :: uv 9 (IntKind.u64.wrap l)) ++ (uv 9 s.size ++ nums s)) := by show resB (s, m, l) = _; unfold resB; rw [if_neg hl0]
          clear hl0
          go_wp2_with (at_builtin; refine wpList_push _ rfl (.tmp 70) (.tmp 73) rfl (T + 1) vb LB rfl ((HBU.out.alloc _).alloc _) ⟨wr.heap.size + 1, 0, none⟩ 1 1 [bits .or .u8 (m % 256) 128] rfl rfl (Bys.new2 wr _ _ [bits .or .u8 (m % 256) 128] rfl) (by simp; omega) (by simp; omega) ?_)
          intro v5 w5 h5 b5 k5
          have H5 : Hid (Buf (T + 1) w5 v5 (LB ++ [bits .or .u8 (m % 256) 128])) := h5
          have B5 : Hid (Below (T + 1) w0 w5) := ((HBE.out.alloc gw _).alloc (by simp; omega) _).trans b5
          have K5 : Hid (Keeps w0 w5) := ((HKE.out.alloc _).alloc _).trans k5
          have R5 : Hid (w5.heap[wr.heap.size]? = some (.cells #[.string s, .int .i64 m, .int .i64 l] 39 (0, 0))) := k5 wr.heap.size _ 39 (0, 0) (by decide) (by rw [Below.heap_alloc _ _ _ (by simp)]; exact heap_alloc_new wr _)
          have g5 : T + 1 ≤ w5.heap.size := by have := B5.out.size; have := HS0.out; omega
          have z2 : w5.cell? ⟨wr.heap.size, 2, none⟩ = some (.int .i64 l) := by rw [cell_of_row _ _ _ _ _ _ R5.out]; rfl
          clear h5 b5 k5
          go_wp2_with fail
          refine (uvarint_any (T + 1) v5 (LB ++ [bits .or .u8 (m % 256) 128]) (IntKind.u64.wrap l) _ g5 H5.out (by simp; omega) (wrap_u64_range l).1 (wrap_u64_range l).2).mono ?_
          rintro e w6 ⟨v6, rfl, h6, b6, k6⟩
          have HEQ : Hid ((LB ++ [bits .or .u8 (m % 256) 128] ++ uv 9 (IntKind.u64.wrap l)) ++ (uv 9 s.size ++ nums s) = LB ++ resB (s, m, l)) := by
            show (LB ++ [bits .or .u8 (m % 256) 128] ++ uv 9 (IntKind.u64.wrap l)) ++ (uv 9 s.size ++ nums s) = LB ++ resB (s, m, l)
            rw [HRB.out]; simp
          obtain ⟨L6, hL6⟩ : ∃ L6, L6 = LB ++ [bits .or .u8 (m % 256) 128] ++ uv 9 (IntKind.u64.wrap l) := ⟨_, rfl⟩
          rw [← hL6] at h6 HEQ
          have hl6 : L6.length ≤ 5600000 := by rw [hL6]; have := uv_len 9 (IntKind.u64.wrap l); simp; omega
          have B6 : Hid (Below (T + 1) w0 w6) := B5.out.trans b6
          have K6 : Hid (Keeps w0 w6) := K5.out.trans k6
          have R6 : Hid (w6.heap[wr.heap.size]? = some (.cells #[.string s, .int .i64 m, .int .i64 l] 39 (0, 0))) := k6 wr.heap.size _ 39 (0, 0) (by decide) R5.out
          clear b6 k6 hL6 HRB z2 H5 B5 K5 R5 g5
        all_goals
          have H6 : Hid (Buf (T + 1) w6 v6 L6) := h6
          have g6 : T + 1 ≤ w6.heap.size := by have := B6.out.size; have := HS0.out; omega
          have z0 : w6.cell? ⟨wr.heap.size, 0, none⟩ = some (.string s) := by rw [cell_of_row _ _ _ _ _ _ R6.out]; rfl
          clear h6 y1 y2 y3 hl1 x20
          go_wp2_with fail
          refine (uvarint_any (T + 1) v6 L6 s.size _ g6 H6.out (by omega) (by omega) (by omega)).mono ?_
          rintro e w7 ⟨v7, rfl, h7, b7, k7⟩
          have H7 : Hid (Buf (T + 1) w7 v7 (L6 ++ uv 9 s.size)) := h7
          have B7 : Hid (Below (T + 1) w0 w7) := B6.out.trans b7
          have K7 : Hid (Keeps w0 w7) := K6.out.trans k7
          have g7 : T + 1 ≤ w7.heap.size := by have := b7.size; omega
          have R7 := k7 wr.heap.size _ 39 (0, 0) (by decide) R6.out
          have z7 : w7.cell? ⟨wr.heap.size, 0, none⟩ = some (.string s) := by rw [cell_of_row _ _ _ _ _ _ R7]; rfl
          have hl7 : (L6 ++ uv 9 s.size).length + s.size ≤ 100000000 := by have := uv_len 9 s.size; simp; omega
          clear h7 b7 k7 R7 z0
          go_wp2_with (at_builtin; refine wpList_pushStr _ rfl (.tmp 90) (.tmp 92) rfl (T + 1) v7 (L6 ++ uv 9 s.size) rfl H7.out s rfl hl7 g7 ?_)
          intro v8 w8 h8 b8 k8
          have H8 : Hid (Buf (T + 1) w8 v8 (L4 ++ resL (rs.take (k + 1)))) := by
            show Buf (T + 1) w8 v8 (L4 ++ resL (rs.take (k + 1)))
            rw [List.take_succ_eq_append_getElem hkl, resL_snoc, ← HP.out, ← List.append_assoc, ← HLB.out, ← HEQ.out]
            simpa using h8
          have B8 : Hid (Below (T + 1) w0 w8) := B7.out.trans b8
          have K8 : Hid (Keeps w0 w8) := K7.out.trans k8
          clear h8 b8 k8 z7
          go_wp2
          go_roundw
          case rel => exact ⟨k + 1, _, by omega, by go_num, rfl, H8, B8, K8⟩
          case measure => simp [intOf]; omega
      · obtain rfl : k = n := by omega
        have e1 : rs.take k = rs := List.take_of_length_le (by have := HL.out; omega)
        rw [e1] at HBU
        have HF : Hid (Buf T wr vb (encB id key dg ow tx rs)) := by
          have h1 := HBU.out
          rw [HL4.out, HL3.out, HLAe.out] at h1
          show Buf T wr vb (encB id key dg ow tx rs)
          unfold encB
          have h2 : Buf T wr vb _ := Buf.base h1 (by omega)
          simpa using h2
        have HFB : Hid (Below T w wr) := HB0.out.trans (HBE.out.mono (by omega))
        have hk1' : Hid (K = id.size) := by show K = id.size; rw [← HK.out, nums_length]
        have hk2' : Hid (O = id.size + (keyB key dg).length) := by show O = id.size + (keyB key dg).length; rw [← HLA.out, HLAe.out, List.length_append, nums_length]
        clear e1 HBU HKE HBE
        go_wp2
        first
          | (refine bodyPost_ret (v := .tuple #[vb, .int .i32 (K : Int), .int .i32 (O : Int), .int .i32 (O3 : Int), .int .i32 (O4 : Int)]) ?_ rfl ⟨vb, K, O, O3, O4, rfl, HF.out, HFB.out, hk1'.out, hk2'.out, HO3e.out, HO4e.out⟩; simp [results, Try.results9, go_sem]; done)
          | (refine bodyPost_ret (v := .tuple #[vb, .int .i32 (K : Int), .int .i32 (K : Int), .int .i32 (O3 : Int), .int .i32 (O4 : Int)]) ?_ rfl ⟨vb, K, K, O3, O4, rfl, HF.out, HFB.out, hk1'.out, HOK.out ▸ hk2'.out, HOK.out ▸ HO3e.out, HO4e.out⟩; simp [results, Try.results9, go_sem]; done)
end Go.Proofs.Qxb6605874a
