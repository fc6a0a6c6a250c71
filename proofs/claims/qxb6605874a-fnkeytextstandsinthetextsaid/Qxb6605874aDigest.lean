import Derived.Test.Qxb6605874aKeyText
import Derived.Laws.CopyOwn
import Derived.Deep.RegionLaw
namespace Go.Proofs.Qxb6605874a
open Go.RowKit
set_option linter.unusedVariables false

def z16 : Array Value := #[.int .u8 0, .int .u8 0, .int .u8 0, .int .u8 0, .int .u8 0, .int .u8 0, .int .u8 0, .int .u8 0, .int .u8 0, .int .u8 0, .int .u8 0, .int .u8 0, .int .u8 0, .int .u8 0, .int .u8 0, .int .u8 0]

theorem three (w : World) (a b c : Obj) :
    ∃ wx, wx = ((w.alloc a).alloc b).alloc c ∧ wx.heap.size = w.heap.size + 3 ∧ wx.heap[w.heap.size]? = some a ∧ wx.heap[w.heap.size + 1]? = some b ∧ wx.heap[w.heap.size + 2]? = some c ∧ Below w.heap.size w wx := by
  refine ⟨_, rfl, by simp, ?_, ?_, ?_, ?_⟩
  · rw [Below.heap_alloc _ _ _ (by simp; omega), Below.heap_alloc _ _ _ (by simp), heap_alloc_new]
  · rw [Below.heap_alloc _ _ _ (by simp)]
    have := heap_alloc_new (w.alloc a) b
    simpa using this
  · have := heap_alloc_new ((w.alloc a).alloc b) c
    simpa using this
  · exact (((Below.refl _ _).alloc (Nat.le_refl _) _).alloc (by simp) _).alloc (by simp; omega) _

theorem res_mid {P : Program} {fn : Func} {p : Tmp} {ty : TypeId} (h : fn.results = #[.cell p ty]) (tmps : Array Value) (w : World) (b : Nat) (cs : List Value) (d : TypeDesc)
    (hp : tmps.getD p undef = .pointer (some ⟨b, 0, none⟩)) (hc : w.rangeAt b 0 cs) (hu : P.underlying ty = some d) (hd : d.isRow = true) (hi : (P.info? ty).map (·.size) = some cs.length) :
    (results fn tmps).run P w = .ok (.agg cs.toArray) w := by
  have hp' : tmps[p]?.getD undef = .pointer (some ⟨b, 0, none⟩) := by simpa using hp
  simp [results, h, hp', asAddr, run_loadVar_mid w b 0 ty cs d hc hu hd hi]

theorem row_there {w : World} {b : Nat} {cs : Array Value} {t : TypeId} (h : w.heap[b]? = some (.cells cs t (0, 0))) (n : Nat) (hn : n ≤ cs.size) : w.there b 0 n := by
  intro j hj
  rw [Nat.zero_add, cell_of_row _ b j cs t (0, 0) h]
  refine ⟨?_, frozen_of_row _ _ _ _ _ h⟩
  rw [Array.getElem?_eq_getElem (by omega)]
  rfl

theorem row_range {w : World} {b : Nat} {cs : List Value} {t : TypeId} {fr : Nat × Nat} (h : w.heap[b]? = some (.cells cs.toArray t fr)) : w.rangeAt b 0 cs := by
  intro j v hj
  rw [Nat.zero_add, cell_of_row _ b j _ t fr h]
  simpa using hj

theorem splice_all {α : Type} (L cs : List α) (h : L.length = cs.length) : splice L 0 cs = cs := by
  simp [splice, List.drop_eq_nil_of_le, h]

set_option maxHeartbeats 4000000 in
theorem digest_yes (P g n c k o : Nat) (dg : List Int) (w : World) (h1 : w.cell? ⟨P, 162, none⟩ = some (.int .i32 k)) (h2 : w.cell? ⟨P, 163, none⟩ = some (.int .i32 o)) (hko : k + 16 < o) (ho : o ≤ n) (hnc : n ≤ c) (hc : o ≤ 100000000)
    (hd : dg.length = 16) (hB : Bys w (some ⟨g, o - 16, none⟩) dg) :
    Calls Try.prog 19 #[.agg #[.pointer (some ⟨P, 0, none⟩), .slice (some ⟨g, 0, none⟩) n c]] w fun e w' => e = .returned (.agg (dg.map (Value.int .u8)).toArray) ∧ Below w.heap.size w w' := by
  have hP : P < w.heap.size := by simpa using World.block_lt_of_cell? _ _ h1
  have hPn : ¬ P = w.heap.size := by omega
  have hlt : decide ((k : Int) < (o : Int)) = true := by simp; omega
  have HLT : Hid _ := hlt
  clear hlt
  have HB : Hid _ := hB
  clear hB
  have HD : Hid _ := hd
  clear hd
  go_enter Try.func19, Try.ntmps19
  go_wp2_with fail
  obtain ⟨wx, hwx, s0, r0, r1, r2, bx⟩ := three w (.cells #[.pointer (some ⟨P, 0, none⟩), .slice (some ⟨g, 0, none⟩) n c] 50) (.cells z16 34) (.cells z16 34)
  show Calls Try.prog 20 _ (((w.alloc (.cells #[.pointer (some ⟨P, 0, none⟩), .slice (some ⟨g, 0, none⟩) n c] 50)).alloc (.cells z16 34)).alloc (.cells z16 34)) _
  rw [← hwx]
  have e1 : wx.cell? ⟨P, 162, none⟩ = some (.int .i32 k) := (bx.cell hP).trans h1
  have e2 : wx.cell? ⟨P, 163, none⟩ = some (.int .i32 o) := (bx.cell hP).trans h2
  have e3 : wx.cell? ⟨w.heap.size, 0, none⟩ = some (.pointer (some ⟨P, 0, none⟩)) := by rw [cell_of_row _ _ _ _ _ _ r0]; rfl
  have e4 : wx.cell? ⟨w.heap.size, 1, none⟩ = some (.slice (some ⟨g, 0, none⟩) n c) := by rw [cell_of_row _ _ _ _ _ _ r0]; rfl
  have RX : Hid _ := hwx
  clear hwx
  have R0 : Hid _ := r0
  have R1 : Hid _ := r1
  have R2 : Hid _ := r2
  have BX : Hid _ := bx
  have S0 : Hid _ := s0
  clear r0 r1 r2 bx s0
  refine (keyed_any P k o _ e1 e2).mono ?_
  rintro e w' ⟨rfl, m, rfl⟩
  rw [HLT.out]
  have q0 : (0 : Int) ≤ (o : Int) - 16 := by omega
  have q1 : (o : Int) - 16 ≤ (o : Int) := by omega
  have q2 : (o : Int) ≤ (c : Int) := by omega
  have q3 : ¬ (c : Int) = (o : Int) - 16 := by omega
  have q4 : ((o : Int) - 16).toNat = o - 16 := by omega
  have q5 : o - (o - 16) = 16 := by omega
  have q7 : IntKind.i32.wrap ((o : Int) - 16) = (o : Int) - 16 := by simp [IntKind.wrap, IntKind.bits, IntKind.signed]; omega
  have q8 : (16 : Int) ≤ (o : Int) := by omega
  have q6 : ¬ c = o - 16 := by omega
  go_wp2_with fail
  have HI5 : Hid ((Try.prog.info? 5).map (·.size) = some 1) := show _ = _ by kernel_rfl
  have HLEN : Hid ((dg.map (Value.int .u8)).length = Nat.min 16 16) := show _ = _ by simp [HD.out]
  have HFIT : Hid (0 + (dg.map (Value.int .u8)).length ≤ z16.toList.length) := show _ ≤ _ by simp [HD.out, z16]
  have H1 : Hid (∀ v ∈ dg.map (Value.int .u8), v.oneCell' = true) := ints_oneCell _ _
  have HSRC : Hid (∀ j v, (dg.map (Value.int .u8))[j]? = some v → wx.cell? ((⟨g, o - 16, none⟩ : Addr).add j) = some v) := by
    intro j v hj
    have hj2 : j < dg.length := by
      rcases Nat.lt_or_ge j dg.length with h | h
      · exact h
      · rw [List.getElem?_eq_none (by simpa using h)] at hj; cases hj
    obtain ⟨b, f, hf, hc⟩ := HB.out (by have := HD.out; omega)
    cases hf
    have hv : v = .int .u8 (dg.getD j 0) := by
      rw [List.getElem?_map] at hj
      rw [List.getElem?_eq_getElem hj2] at hj
      simp at hj
      rw [← hj]; simp [List.getElem?_eq_getElem hj2]
    have := hc j hj2
    rw [hv]
    rw [show (⟨g, o - 16, none⟩ : Addr).add j = ⟨g, o - 16 + j, none⟩ by unfold Addr.add; split <;> simp_all]
    exact (BX.out.cell (World.block_lt_of_cell? _ _ this)).trans this
  have HI34 : Hid ((Try.prog.info? 34).map (·.size) = some (dg.map (Value.int .u8)).length) := show _ = _ by rw [HLEN.out]; kernel_rfl
  have HI34' : Hid ((Try.prog.info? 34).map (·.size) = some (dg.map (Value.int .u8)).toArray.size) := show _ = _ by simpa using HI34.out
  have HT : Hid (∀ w4 : World, Below (w.heap.size + 2) wx w4 → w4.there (w.heap.size + 1) 0 (dg.map (Value.int .u8)).toArray.size) := by
    intro w4 hb
    exact row_there (t := 34) (cs := z16) ((hb.block _ (by omega)).trans R1.out) _ (by simp [HD.out, z16])
  have HR : Hid (∀ w4 : World, w4.heap[w.heap.size + 2]? = some (.cells (splice z16.toList 0 (dg.map (Value.int .u8))).toArray 34 (0, 0)) → w4.rangeAt (w.heap.size + 2) 0 (dg.map (Value.int .u8))) := by
    intro w4 h
    rw [splice_all _ _ (by simp [HD.out, z16])] at h
    exact row_range h
  go_region_law (refine step_copy_splice rfl (.tmp 7) (.tmp 21) 30 30 rfl 5 Try.underlying30 HI5.out _ _ _ _ _ _ rfl rfl (w.heap.size + 2) 0 z16.toList 34 R2.out (dg.map (Value.int .u8)) HLEN.out (fun _ => ⟨rfl, _, rfl, HSRC.out⟩) HFIT.out H1.out (w.heap.size + 2) wx (below_drewN (Below.refl _ _) _) (Nat.le_refl _) ?_; intro w4 hg4 hb4)
  all_goals (
    go_wp2_with (first
      | (refine wpList_load_mid rfl 34 (.tmp 3) rfl (w.heap.size + 2) 0 rfl (dg.map (Value.int .u8)) _ (HR.out _ hg4.out) Try.underlying34 rfl HI34.out ?_)
      | (refine wpList_store_mid rfl 34 (.tmp 2) (.tmp 23) rfl (w.heap.size + 1) 0 (dg.map (Value.int .u8)).toArray rfl rfl (HT.out _ hb4) HI34'.out (dg_oneCell dg) ?_))
    refine bodyPost_ret (v := .agg (dg.map (Value.int .u8)).toArray) (res_mid (P := Try.prog) (fn := Try.f19) (p := 2) (ty := 34) rfl _ _ (w.heap.size + 1) (dg.map (Value.int .u8)) _ rfl (World.rangeAt_setCells_same _ _ _ _ (by simpa using HT.out _ hb4)) Try.underlying34 rfl HI34.out) rfl ⟨rfl, ?_⟩
    exact (BX.out.trans (hb4.mono (by omega))).trans (Lib.below_setCells_w (by omega) _ _ _))
end Go.Proofs.Qxb6605874a
