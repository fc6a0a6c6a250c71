import Derived.Test.Qxb6605874aDigest
namespace Go.Proofs.Qxb6605874a
open Go.RowKit
set_option linter.unusedVariables false

theorem z16_eq : z16 = ((List.replicate 16 (0 : Int)).map (Value.int .u8)).toArray := by rfl
theorem z16_one : z16.all (·.oneCell') = true := by rw [z16_eq]; exact dg_oneCell _

set_option maxHeartbeats 1000000 in
theorem digest_no (P k o : Nat) (v : Value) (w : World) (h1 : w.cell? ⟨P, 162, none⟩ = some (.int .i32 k)) (h2 : w.cell? ⟨P, 163, none⟩ = some (.int .i32 o)) (hko : o ≤ k) :
    Calls Try.prog 19 #[.agg #[.pointer (some ⟨P, 0, none⟩), v]] w fun e w' => e = .returned (.agg z16) ∧ Below w.heap.size w w' := by
  have hP : P < w.heap.size := by simpa using World.block_lt_of_cell? _ _ h1
  have hPn : ¬ P = w.heap.size := by omega
  have hlt : decide ((k : Int) < (o : Int)) = false := by simp; omega
  have HLT : Hid _ := hlt
  clear hlt
  go_enter Try.func19, Try.ntmps19
  go_wp2_with fail
  obtain ⟨wx, hwx, s0, r0, r1, r2, bx⟩ := three w (.cells #[.pointer (some ⟨P, 0, none⟩), v] 50) (.cells z16 34) (.cells z16 34)
  show Calls Try.prog 20 _ (((w.alloc (.cells #[.pointer (some ⟨P, 0, none⟩), v] 50)).alloc (.cells z16 34)).alloc (.cells z16 34)) _
  rw [← hwx]
  have e1 : wx.cell? ⟨P, 162, none⟩ = some (.int .i32 k) := (bx.cell hP).trans h1
  have e2 : wx.cell? ⟨P, 163, none⟩ = some (.int .i32 o) := (bx.cell hP).trans h2
  have RX : Hid _ := hwx
  clear hwx
  have R0 : Hid _ := r0
  have R1 : Hid _ := r1
  have R2 : Hid _ := r2
  have BX : Hid _ := bx
  have S0 : Hid _ := s0
  clear r0 r1 r2 bx s0
  refine (keyed_any P k o _ e1 e2).mono ?_
  rintro e w' ⟨rfl, m, rfl⟩
  rw [HLT.out]
  have HI34 : Hid ((Try.prog.info? 34).map (·.size) = some z16.toList.length) := show _ = _ by kernel_rfl
  have HI34' : Hid ((Try.prog.info? 34).map (·.size) = some z16.size) := show _ = _ by kernel_rfl
  have HT : Hid (wx.there (w.heap.size + 1) 0 z16.size) := row_there (t := 34) (cs := z16) R1.out _ (Nat.le_refl _)
  have HR : Hid (wx.rangeAt (w.heap.size + 2) 0 z16.toList) := row_range (cs := z16.toList) R2.out
  have HO : Hid (z16.all (·.oneCell') = true) := z16_one
  go_wp2_with (first
      | (refine wpList_load_mid rfl 34 (.tmp 3) rfl (w.heap.size + 2) 0 rfl z16.toList _ HR.out Try.underlying34 rfl HI34.out ?_)
      | (refine wpList_store_mid rfl 34 (.tmp 2) (.tmp 23) rfl (w.heap.size + 1) 0 z16 rfl rfl HT.out HI34'.out HO.out ?_))
  refine bodyPost_ret (v := .agg z16) (res_mid (P := Try.prog) (fn := Try.f19) (p := 2) (ty := 34) rfl _ _ (w.heap.size + 1) z16.toList _ rfl (World.rangeAt_setCells_same _ _ _ _ HT.out) Try.underlying34 rfl HI34.out) rfl ⟨rfl, ?_⟩
  exact (below_drewN BX.out _).trans (Lib.below_setCells_w (by omega) _ _ _)

theorem Calls.at_world {P : Program} {f : FuncId} {vs : Array Value} {w w0 : World} {R : Ending → World → Prop} (h : w = w0) (hc : Calls P f vs w R) : Calls P f vs w0 R := h ▸ hc

set_option maxHeartbeats 1000000 in
theorem dig_yes (g n c : Nat) (k1 k2 k3 k4 : Nat) (dg : List Int) (w : World) (hn : n ≤ 100000000) (hko : k1 + 16 < k2) (ho : k2 ≤ n) (hnc : n ≤ c) (hd : dg.length = 16) (hB : Bys w (some ⟨g, k2 - 16, none⟩) dg) :
    Calls Try.prog 11 #[.slice (some ⟨g, 0, none⟩) n c, .int .i32 k1, .int .i32 k2, .int .i32 k3, .int .i32 k4] w fun e w' =>
      e = .returned (.agg (dg.map (Value.int .u8)).toArray) ∧ Below w.heap.size w w' := by
  obtain ⟨Z, hz, hs, z0, z2, z3, z4, z5⟩ := z48
  have HS : Hid _ := hs
  clear hs
  have HB : Hid _ := hB
  clear hB
  have HD : Hid _ := hd
  clear hd
  have hn' : IntKind.i32.wrap (n : Int) = n := by simp [IntKind.wrap, IntKind.bits, IntKind.signed]; omega
  go_enter Try.func11, Try.ntmps11
  go_wp2_with fail
  have hc := packed_cells (w.alloc (.cells z16 34)) HS n k1 k2 k3 k4
  obtain ⟨w1, hw1⟩ : ∃ w1, w1 = (w.alloc (.cells z16 34)).alloc (.cells (((((Z.setIfInBounds 160 (.int .i32 n)).setIfInBounds 162 (.int .i32 k1)).setIfInBounds 163 (.int .i32 k2)).setIfInBounds 164 (.int .i32 k3)).setIfInBounds 165 (.int .i32 k4)) 48) := ⟨_, rfl⟩
  rw [← hw1] at hc
  rw [show (w.alloc (.cells z16 34)).heap.size = w.heap.size + 1 by simp] at hc
  have r1 : w1.heap[w.heap.size]? = some (.cells z16 34) := by rw [hw1, Below.heap_alloc _ _ _ (by simp), heap_alloc_new]
  have b1 : Below w.heap.size w w1 := by rw [hw1]; exact ((Below.refl _ _).alloc (Nat.le_refl _) _).alloc (by simp) _
  have s1 : w.heap.size + 2 = w1.heap.size := by rw [hw1]; simp
  refine Calls.at_world (w := w1) hw1 ?_
  have HW : Hid _ := hw1
  have R1 : Hid _ := r1
  have B1 : Hid _ := b1
  have S1 : Hid _ := s1
  clear hw1 r1 b1 s1
  refine (digest_yes (w.heap.size + 1) g n c k1 k2 dg w1 hc.1 hc.2 hko ho hnc (by omega) HD.out (Bys.below HB.out B1.out)).mono ?_
  rintro e w' ⟨rfl, hb⟩
  have HI34 : Hid ((Try.prog.info? 34).map (·.size) = some (dg.map (Value.int .u8)).length) := show _ = _ by rw [List.length_map, HD.out]; kernel_rfl
  have HI34' : Hid ((Try.prog.info? 34).map (·.size) = some (dg.map (Value.int .u8)).toArray.size) := show _ = _ by simpa using HI34.out
  have HT : Hid (w'.there w.heap.size 0 (dg.map (Value.int .u8)).toArray.size) := row_there (t := 34) (cs := z16) ((hb.block _ (by have := S1.out; omega)).trans R1.out) _ (by simp [HD.out, z16])
  have HBB : Hid _ := hb
  clear hb
  go_wp2_with (first
      | (refine wpList_store_mid rfl 34 (.tmp 10) (.tmp 39) rfl w.heap.size 0 (dg.map (Value.int .u8)).toArray rfl rfl HT.out HI34'.out (dg_oneCell _) ?_))
  refine bodyPost_ret (v := .agg (dg.map (Value.int .u8)).toArray) (res_mid (P := Try.prog) (fn := Try.f11) (p := 10) (ty := 34) rfl _ _ w.heap.size (dg.map (Value.int .u8)) _ rfl (World.rangeAt_setCells_same _ _ _ _ (by simpa using HT.out)) Try.underlying34 rfl HI34.out) rfl ⟨rfl, ?_⟩
  exact (B1.out.trans (HBB.out.mono (by have := S1.out; omega))).trans (Lib.below_setCells_w (Nat.le_refl _) _ _ _)

set_option maxHeartbeats 1000000 in
theorem dig_no (x : Option Addr) (n c : Nat) (k1 k2 k3 k4 : Nat) (w : World) (hn : n ≤ 100000000) (hko : k2 ≤ k1) :
    Calls Try.prog 11 #[.slice x n c, .int .i32 k1, .int .i32 k2, .int .i32 k3, .int .i32 k4] w fun e w' =>
      e = .returned (.agg ((List.replicate 16 (0 : Int)).map (Value.int .u8)).toArray) ∧ Below w.heap.size w w' := by
  obtain ⟨Z, hz, hs, z0, z2, z3, z4, z5⟩ := z48
  have HS : Hid _ := hs
  clear hs
  have hn' : IntKind.i32.wrap (n : Int) = n := by simp [IntKind.wrap, IntKind.bits, IntKind.signed]; omega
  go_enter Try.func11, Try.ntmps11
  go_wp2_with fail
  have hc := packed_cells (w.alloc (.cells z16 34)) HS n k1 k2 k3 k4
  obtain ⟨w1, hw1⟩ : ∃ w1, w1 = (w.alloc (.cells z16 34)).alloc (.cells (((((Z.setIfInBounds 160 (.int .i32 n)).setIfInBounds 162 (.int .i32 k1)).setIfInBounds 163 (.int .i32 k2)).setIfInBounds 164 (.int .i32 k3)).setIfInBounds 165 (.int .i32 k4)) 48) := ⟨_, rfl⟩
  rw [← hw1] at hc
  rw [show (w.alloc (.cells z16 34)).heap.size = w.heap.size + 1 by simp] at hc
  have r1 : w1.heap[w.heap.size]? = some (.cells z16 34) := by rw [hw1, Below.heap_alloc _ _ _ (by simp), heap_alloc_new]
  have b1 : Below w.heap.size w w1 := by rw [hw1]; exact ((Below.refl _ _).alloc (Nat.le_refl _) _).alloc (by simp) _
  have s1 : w.heap.size + 2 = w1.heap.size := by rw [hw1]; simp
  refine Calls.at_world (w := w1) hw1 ?_
  have HW : Hid _ := hw1
  have R1 : Hid _ := r1
  have B1 : Hid _ := b1
  have S1 : Hid _ := s1
  clear hw1 r1 b1 s1
  refine (digest_no (w.heap.size + 1) k1 k2 _ w1 hc.1 hc.2 hko).mono ?_
  rintro e w' ⟨rfl, hb⟩
  have HI34 : Hid ((Try.prog.info? 34).map (·.size) = some ((List.replicate 16 (0 : Int)).map (Value.int .u8)).length) := show _ = _ by kernel_rfl
  have HI34' : Hid ((Try.prog.info? 34).map (·.size) = some ((List.replicate 16 (0 : Int)).map (Value.int .u8)).toArray.size) := show _ = _ by simpa using HI34.out
  have HT : Hid (w'.there w.heap.size 0 ((List.replicate 16 (0 : Int)).map (Value.int .u8)).toArray.size) := row_there (t := 34) (cs := z16) ((hb.block _ (by have := S1.out; omega)).trans R1.out) _ (by simp [z16])
  have HBB : Hid _ := hb
  clear hb
  go_wp2_with (first
      | (refine wpList_store_mid rfl 34 (.tmp 10) (.tmp 39) rfl w.heap.size 0 ((List.replicate 16 (0 : Int)).map (Value.int .u8)).toArray rfl rfl HT.out HI34'.out (dg_oneCell _) ?_))
  refine bodyPost_ret (v := .agg ((List.replicate 16 (0 : Int)).map (Value.int .u8)).toArray) (res_mid (P := Try.prog) (fn := Try.f11) (p := 10) (ty := 34) rfl _ _ w.heap.size ((List.replicate 16 (0 : Int)).map (Value.int .u8)) _ rfl (World.rangeAt_setCells_same _ _ _ _ (by simpa using HT.out)) Try.underlying34 rfl HI34.out) rfl ⟨rfl, ?_⟩
  exact (B1.out.trans (HBB.out.mono (by have := S1.out; omega))).trans (Lib.below_setCells_w (Nat.le_refl _) _ _ _)

/-- Two arrays of the same bytes are equal. -/
theorem equalIn_same {P : Program} (w : World) (d : Nat) (t e : TypeId) (n : Nat) (ht : P.underlying t = some (.array n e)) (he : P.underlying e = some (.int .u8)) (hsz : ∀ w, (sizeOf e).run P w = .ok 1 w)
    (xs : List Int) (hx : xs.length = n) :
    (Op.equalIn (d + 2) t (.agg (xs.map (Value.int .u8)).toArray) (.agg (xs.map (Value.int .u8)).toArray)).run P w = .ok true w := by
  rw [Op.equalIn]
  simp only [Sem.run_bind, run_underlying ht, Result.andThen_ok, hsz, Std.Legacy.Range.forIn_eq_forIn_range', Std.Legacy.Range.size, Nat.sub_zero, Nat.add_sub_cancel, Nat.div_one]
  have hl : ∀ i ∈ List.range' 0 n 1, i < n := fun i hi => by simpa using (List.mem_range'_1.1 hi).2
  generalize List.range' 0 n 1 = l at hl ⊢
  induction l with
  | nil => simp
  | cons i l ih =>
    have hi : i < n := hl i (by simp)
    have px : (part e (xs.map (Value.int .u8)).toArray (i * 1)).run P w = .ok (.int .u8 (xs.getD i 0)) w := by
      simp [part, isAgg, run_underlying he, List.getD, List.getElem?_eq_getElem (show i < xs.length by omega)]
    have pe : (Op.equalIn (d + 1) e (.int .u8 (xs.getD i 0)) (.int .u8 (xs.getD i 0))).run P w = .ok true w := by
      rw [run_equalIn_int w d e .u8 .u8 _ _ he]
      simp
    simp only [List.forIn_cons, Sem.run_bind, px, pe, Result.andThen_ok]
    simp only [Bool.not_true, Bool.false_eq_true, if_false, Sem.run_pure, Result.andThen_ok]
    exact ih fun j hj => hl j (by simp [hj])

theorem eql_same {P : Program} (w : World) (t e : TypeId) (n : Nat) (ht : P.underlying t = some (.array n e)) (he : P.underlying e = some (.int .u8)) (hsz : ∀ w, (sizeOf e).run P w = .ok 1 w)
    (xs : List Int) (hx : xs.length = n) :
    (binOp .eql t (.agg (xs.map (Value.int .u8)).toArray) (.agg (xs.map (Value.int .u8)).toArray)).run P w = .ok (.bool true) w := by
  rw [run_eql_struct, equalIn_same w 9998 t e n ht he hsz xs hx]
  rfl

set_option maxHeartbeats 400000 in
theorem kt_none (x : Option Addr) (n c : Nat) (k1 k2 k3 k4 : Nat) (w : World) (hn : n ≤ 100000000) (hko : k2 ≤ k1) :
    Calls Try.prog 10 #[.slice x n c, .int .i32 k1, .int .i32 k2, .int .i32 k3, .int .i32 k4] w fun e w' =>
      e = .returned (.slice none 0 0) ∧ Below w.heap.size w w' := by
  obtain ⟨Z, hz, hs, z0, z2, z3, z4, z5⟩ := z48
  have HS : Hid _ := hs
  clear hs
  have hn' : IntKind.i32.wrap (n : Int) = n := by simp [IntKind.wrap, IntKind.bits, IntKind.signed]; omega
  go_enter Try.func10, Try.ntmps10
  go_wp2_with fail
  have hc := packed_cells w HS n k1 k2 k3 k4
  refine (keyText_no _ k1 k2 _ _ hc.1 hc.2 hko).mono ?_
  rintro e w' ⟨rfl, hb⟩
  go_wp2
  go_ret
  exact ⟨rfl, ((Below.refl _ _).alloc (Nat.le_refl _) _).trans (hb.mono (by simp))⟩

end Go.Proofs.Qxb6605874a
