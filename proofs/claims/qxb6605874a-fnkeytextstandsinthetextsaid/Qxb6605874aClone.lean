import Derived.Test.Qxb6605874aGuards
namespace Go.Proofs.Qxb6605874a
open Go.RowKit
set_option linter.unusedVariables false

theorem Try.info39 : (Try.prog.info? 39).map (fun i => (i.zero, i.size, i.bytes)) = some (some (.agg #[.string ByteArray.empty, .int .i64 0, .int .i64 0]), 3, 32) := by kernel_rfl

theorem set_other (w : World) (b o o' : Nat) (v : Value) (h : o ≠ o') : (w.setCell ⟨b, o, none⟩ v).cell? ⟨b, o', none⟩ = w.cell? ⟨b, o', none⟩ :=
  World.cell?_setCell_other _ _ _ _ (fun e => h (by injection e))
theorem set_same (w : World) (b o : Nat) (v u : Value) (h : w.cell? ⟨b, o, none⟩ = some u) : (w.setCell ⟨b, o, none⟩ v).cell? ⟨b, o, none⟩ = some v :=
  World.cell?_setCell_same _ _ _ h

/-- The row of resources behind k rounds. -/
def Done (wr : World) (B k : Nat) (rs : List (ByteArray × Int × Int)) : Prop := ∀ i (h : i < rs.length), i < k →
  wr.cell? ⟨B, i * 3, none⟩ = some (.string rs[i].1) ∧ wr.cell? ⟨B, i * 3 + 1, none⟩ = some (.int .i64 rs[i].2.1) ∧ wr.cell? ⟨B, i * 3 + 2, none⟩ = some (.int .i64 rs[i].2.2)
def Room (wr : World) (B n : Nat) : Prop := ∀ j, j < n * 3 → (∃ v, wr.cell? ⟨B, j, none⟩ = some v) ∧ wr.frozen? ⟨B, j, none⟩ = false

theorem res_step {wr : World} {B k n : Nat} {rs : List (ByteArray × Int × Int)} (hk : k < n) (hl : rs.length = n) (hkl : k < rs.length) (hA : Done wr B k rs) (hR : Room wr B n) :
    Done (((wr.setCell ⟨B, k * 3, none⟩ (.string rs[k].1)).setCell ⟨B, k * 3 + 1, none⟩ (.int .i64 rs[k].2.1)).setCell ⟨B, k * 3 + 2, none⟩ (.int .i64 rs[k].2.2)) B (k + 1) rs ∧
    Room (((wr.setCell ⟨B, k * 3, none⟩ (.string rs[k].1)).setCell ⟨B, k * 3 + 1, none⟩ (.int .i64 rs[k].2.1)).setCell ⟨B, k * 3 + 2, none⟩ (.int .i64 rs[k].2.2)) B n := by
  obtain ⟨⟨y0, r0⟩, -⟩ := hR (k * 3) (by omega)
  obtain ⟨⟨y1, r1⟩, -⟩ := hR (k * 3 + 1) (by omega)
  obtain ⟨⟨y2, r2⟩, -⟩ := hR (k * 3 + 2) (by omega)
  refine ⟨fun i h hi => ?_, fun j hj => ?_⟩
  · rcases Nat.lt_or_ge i k with hik | hik
    · refine ⟨?_, ?_, ?_⟩
      · rw [set_other _ _ _ _ _ (by omega), set_other _ _ _ _ _ (by omega), set_other _ _ _ _ _ (by omega)]; exact (hA i h hik).1
      · rw [set_other _ _ _ _ _ (by omega), set_other _ _ _ _ _ (by omega), set_other _ _ _ _ _ (by omega)]; exact (hA i h hik).2.1
      · rw [set_other _ _ _ _ _ (by omega), set_other _ _ _ _ _ (by omega), set_other _ _ _ _ _ (by omega)]; exact (hA i h hik).2.2
    · obtain rfl : i = k := by omega
      refine ⟨?_, ?_, ?_⟩
      · rw [set_other _ _ _ _ _ (by omega), set_other _ _ _ _ _ (by omega)]
        exact set_same _ _ _ _ _ r0
      · rw [set_other _ _ _ _ _ (by omega)]
        refine set_same _ _ _ _ y1 ?_
        rw [set_other _ _ _ _ _ (by omega)]; exact r1
      · refine set_same _ _ _ _ y2 ?_
        rw [set_other _ _ _ _ _ (by omega), set_other _ _ _ _ _ (by omega)]; exact r2
  · refine ⟨?_, by simpa using (hR j hj).2⟩
    obtain ⟨⟨v, hv⟩, -⟩ := hR j hj
    obtain ⟨v', hv'⟩ := cell?_setCell_some (p := ⟨B, k * 3, none⟩) (x := .string rs[k].1) hv
    obtain ⟨v'', hv''⟩ := cell?_setCell_some (p := ⟨B, k * 3 + 1, none⟩) (x := .int .i64 rs[k].2.1) hv'
    exact cell?_setCell_some (p := ⟨B, k * 3 + 2, none⟩) (x := .int .i64 rs[k].2.2) hv''

theorem cloneRes_nil (n c : Nat) (w : World) : Calls Try.prog 8 #[.slice none n c] w fun e w' => e = .returned (.slice none 0 0) ∧ w = w' := by
  have hn := fun w => Lib.run_eql_slice_nil (P := Try.prog) w 23 39 none n c 0 0 Try.underlying23
  go_enter Try.func8, Try.ntmps8
  go_wp2
  go_ret
  exact ⟨rfl, rfl⟩

set_option maxHeartbeats 1000000 in
theorem cloneRes_some (x : Addr) (n c : Nat) (rs : List (ByteArray × Int × Int)) (hl : rs.length = n) (hm : n ≤ 65536) (w : World) (h : Res w (some x) rs) :
    Calls Try.prog 8 #[.slice (some x) n c] w fun e w' => e = .returned (.slice (some ⟨w.heap.size, 0, none⟩) n n) ∧ Res w' (some ⟨w.heap.size, 0, none⟩) rs ∧ Below w.heap.size w w' := by
  have hn := fun w => Lib.run_eql_slice_nil (P := Try.prog) w 23 39 (some x) n c 0 0 Try.underlying23
  obtain ⟨i0, hi, hz0, hz1, hz2⟩ := info_parts Try.info39
  have HL : Hid (rs.length = n) := hl
  have H : Hid (Res w (some x) rs) := h
  have hby : i0.bytes * n ≤ 281474976710656 := by rw [hz2]; omega
  have hml : n ≤ maxLen := by unfold maxLen; omega
  obtain ⟨B, hBB⟩ : ∃ B, B = w.heap.size := ⟨_, rfl⟩
  have HBB : Hid (B = w.heap.size) := hBB
  have hB : B ≤ w.heap.size := by omega
  rw [← hBB]
  clear hl h hz2 hBB
  go_enter Try.func8, Try.ntmps8
  go_wp2_with (at_make; refine wpList_make_full _ rfl _ _ 23 rfl B 39 i0 (.agg #[.string ByteArray.empty, .int .i64 0, .int .i64 0]) 3 Try.underlying23 hi hz0 hz1 _ _ _ _ n rfl rfl rfl rfl hby hml hB ?_)
  intro w1 hown hgrow
  rw [← HBB.out] at hown ⊢
  have hbel : Below B w w1 := (Below.refl _ _).grown hgrow hB (by simp)
  have hR : Room w1 B n := by
    intro j hj
    refine ⟨?_, hown.frozenAt j⟩
    have hx := hown.1
    rw [hown.cellAt j hj]
    exact ⟨_, List.getElem?_eq_getElem (by omega)⟩
  have HR : Hid (Room w1 B n) := hR
  have HBE : Hid (Below B w w1) := hbel
  clear hgrow hi hz0 hz1 hby hown hbel hR hn
  go_wp2
  go_loopw [4] (fun i wr => ∃ k : Nat, k ≤ n ∧ i = .int .i64 k ∧ Hid (Done wr B k rs) ∧ Hid (Room wr B n) ∧ Hid (Below B w wr)) (fun i _ => n - (intOf i).toNat)
  case atStart => exact ⟨0, Nat.zero_le _, rfl, fun i _ hi => by omega, HR, HBE⟩
  case round =>
    clear HR HBE
    obtain ⟨k, hk, rfl, HA, HR, HBE⟩ := hrel
    by_cases hlt : k < n
    · have hkl : k < rs.length := by have := HL.out; omega
      obtain ⟨b, off, hx, hc⟩ := H.out (by omega)
      simp only [Option.some.injEq] at hx
      subst hx
      obtain ⟨x1, x2, x3⟩ := hc k hkl
      have ST := res_step hlt HL.out hkl HA.out HR.out
      obtain ⟨⟨s, m, l⟩, hp⟩ : ∃ p, p = rs[k] := ⟨_, rfl⟩
      rw [← hp] at x1 x2 x3 ST
      have lt1 : b < B := by rw [HBB.out]; exact World.block_lt_of_cell? _ _ x1
      have g1 : wr.cell? ⟨b, off + k * 3, none⟩ = some (.string s) := by rw [HBE.out.cell lt1]; exact x1
      have g2 : wr.cell? ⟨b, off + k * 3 + 1, none⟩ = some (.int .i64 m) := by rw [HBE.out.cell lt1]; exact x2
      have g3 : wr.cell? ⟨b, off + k * 3 + 2, none⟩ = some (.int .i64 l) := by rw [HBE.out.cell lt1]; exact x3
      obtain ⟨⟨y0, r0⟩, z0⟩ := HR.out (k * 3) (by omega)
      obtain ⟨⟨y1, r1⟩, z1⟩ := HR.out (k * 3 + 1) (by omega)
      obtain ⟨⟨y2, r2⟩, z2⟩ := HR.out (k * 3 + 2) (by omega)
      have HST : Hid _ := ST
      have HB2 : Hid (Below B w (((wr.setCell ⟨B, k * 3, none⟩ (.string s)).setCell ⟨B, k * 3 + 1, none⟩ (.int .i64 m)).setCell ⟨B, k * 3 + 2, none⟩ (.int .i64 l))) := ((HBE.out.setCell (Nat.le_refl _) _).setCell (Nat.le_refl _) _).setCell (Nat.le_refl _) _
      have n1 : ¬ b = B := by omega
      clear ST hp hc x1 x2 x3 HA HR HBE
      go_wp2
      go_roundw
      case rel => exact ⟨k + 1, by omega, by go_num, HST.out.1, HST.out.2, HB2⟩
      case measure => simp [intOf]; omega
    · obtain rfl : k = n := by omega
      have HCC : Hid (Res wr (some ⟨B, 0, none⟩) rs) := by
        intro hp
        refine ⟨B, 0, rfl, fun i hi => ?_⟩
        rw [Nat.zero_add]
        exact HA.out i hi (by have := HL.out; omega)
      clear HA HR
      go_wp2
      go_ret
      exact ⟨rfl, HCC.out, HBE.out⟩

theorem cloneRes_any (a : Option Addr) (n c : Nat) (rs : List (ByteArray × Int × Int)) (hl : rs.length = n) (hm : n ≤ 65536) (hn : a = none → n = 0) (w : World) (h : Res w a rs) :
    Calls Try.prog 8 #[.slice a n c] w fun e w' => ∃ a', e = .returned (.slice a' n n) ∧ Res w' a' rs ∧ Below w.heap.size w w' := by
  cases a with
  | none =>
    obtain rfl := hn rfl
    refine (cloneRes_nil 0 c w).mono ?_
    rintro e w' ⟨rfl, rfl⟩
    exact ⟨none, rfl, fun hp => by omega, Below.refl _ _⟩
  | some x =>
    refine (cloneRes_some x n c rs hl hm w h).mono ?_
    rintro e w' ⟨rfl, h1, h2⟩
    exact ⟨_, rfl, h1, h2⟩

/-- An unsigned varint. -/
def uv : Nat → Int → List Int
  | 0, x => [x]
  | f + 1, x => if x < 128 then [x] else bits .or .u8 (x % 256) 128 :: uv f (x / 128)
theorem uv_len (f : Nat) : ∀ x, (uv f x).length ≤ f + 1 := by
  induction f with
  | zero => intro x; simp [uv]
  | succ f ih =>
    intro x
    unfold uv
    split
    · simp
    · have := ih (x / 128); simp; omega

set_option maxHeartbeats 1000000 in
theorem uvarint_any (B : Nat) (v : Value) (l : List Int) (x : Int) (w : World) (hB : B ≤ w.heap.size) (hb : Buf B w v l) (hlen : l.length + 10 ≤ 100000000) (h0 : 0 ≤ x) (h1 : x < 18446744073709551616) :
    Calls Try.prog 17 #[v, .int .u64 x] w fun e w' => ∃ v', e = .returned v' ∧ Buf B w' v' (l ++ uv 9 x) ∧ Below B w w' ∧ Keeps w w' := by
  have HB : Hid (Buf B w v l) := hb
  have H1 : Hid (x < 128 ^ (9 + 1)) := by show x < 128 ^ (9 + 1); omega
  clear hb h1
  go_enter Try.func17, Try.ntmps17
  go_wp2
  go_loopw [0, 1] (fun b i wr => ∃ (f : Nat) (y : Int) (p : List Int) (vb : Value), i = .int .u64 y ∧ vb = b ∧ 0 ≤ y ∧ Hid (y < 128 ^ (f + 1)) ∧ f ≤ 9 ∧ Hid (Buf B wr vb (l ++ p)) ∧ Hid (p ++ uv f y = uv 9 x) ∧ p.length + f ≤ 9 ∧ Hid (Below B w wr) ∧ Hid (Keeps w wr)) (fun _ i _ => (intOf i).toNat)
  case atStart => exact ⟨9, x, [], v, rfl, rfl, h0, H1, Nat.le_refl _, by show Buf B w v (l ++ []); rw [List.append_nil]; exact HB.out, by show [] ++ uv 9 x = uv 9 x; rfl, by simp, Below.refl _ _, Keeps.refl _⟩
  case round =>
    obtain ⟨f, y, p, vb, rfl, rfl, hy0, HY, hf, HBU, HP, hpl, HBE, HKE⟩ := hrel
    have gw : B ≤ wr.heap.size := by have := HBE.out.size; omega
    by_cases hlt : 128 ≤ y
    · obtain ⟨f', rfl⟩ : ∃ f', f = f' + 1 := by
        cases f with
        | zero => have := HY.out; simp at this; omega
        | succ f' => exact ⟨f', rfl⟩
      have HY2 : Hid (y / 128 < 128 ^ (f' + 1)) := by
        have h := HY.out
        show y / 128 < 128 ^ (f' + 1)
        have e : (128 : Int) ^ (f' + 1 + 1) = 128 ^ (f' + 1) * 128 := by rw [Int.pow_succ]
        rw [e] at h
        omega
      have HP2 : Hid ((p ++ [bits .or .u8 (y % 256) 128]) ++ uv f' (y / 128) = uv 9 x) := by
        show (p ++ [bits .or .u8 (y % 256) 128]) ++ uv f' (y / 128) = uv 9 x
        rw [← HP.out]
        conv => rhs; unfold uv
        rw [if_neg (by omega)]
        simp
      have hll : (l ++ p).length + 1 ≤ 100000000 := by simp; omega
      go_wp2_with (at_builtin; refine wpList_push _ rfl (.tmp 7) (.tmp 11) rfl B vb (l ++ p) rfl (HBU.out.alloc _) ⟨wr.heap.size, 0, none⟩ 1 1 [bits .or .u8 (y % 256) 128] rfl rfl (Bys.new wr _ [bits .or .u8 (y % 256) 128] rfl) hll (by simp; omega) ?_)
      intro v3 w3 h3 b3 k3
      have H3 : Hid (Buf B w3 v3 (l ++ (p ++ [bits .or .u8 (y % 256) 128]))) := by
        show Buf B w3 v3 (l ++ (p ++ [bits .or .u8 (y % 256) 128]))
        simpa using h3
      have B3 : Hid (Below B w w3) := (HBE.out.alloc gw _).trans b3
      have K3 : Hid (Keeps w w3) := (HKE.out.alloc _).trans k3
      clear h3 b3 k3
      go_wp2
      go_roundw
      case rel => exact ⟨f', y / 128, _, _, rfl, rfl, by omega, HY2, by omega, H3, HP2, by simp; omega, B3, K3⟩
      case measure => simp [intOf]; omega
    · have HP2 : Hid (p ++ [y] = uv 9 x) := by
        show p ++ [y] = uv 9 x
        rw [← HP.out]
        cases f with
        | zero => rfl
        | succ f' =>
          unfold uv
          rw [if_pos (by omega)]
      have hll : (l ++ p).length + 1 ≤ 100000000 := by simp; omega
      go_wp2_with (at_builtin; refine wpList_push _ rfl (.tmp 15) (.tmp 18) rfl B vb (l ++ p) rfl (HBU.out.alloc _) ⟨wr.heap.size, 0, none⟩ 1 1 [y] rfl rfl (Bys.new wr _ [y] rfl) hll (by simp; omega) ?_)
      intro v3 w3 h3 b3 k3
      have H3 : Hid (Buf B w3 v3 (l ++ uv 9 x)) := by
        show Buf B w3 v3 (l ++ uv 9 x)
        rw [← HP2.out]
        simpa using h3
      have B3 : Hid (Below B w w3) := (HBE.out.alloc gw _).trans b3
      have K3 : Hid (Keeps w w3) := (HKE.out.alloc _).trans k3
      clear h3 b3 k3
      go_wp2
      go_ret
      exact ⟨_, rfl, H3.out, B3.out, K3.out⟩
end Go.Proofs.Qxb6605874a
