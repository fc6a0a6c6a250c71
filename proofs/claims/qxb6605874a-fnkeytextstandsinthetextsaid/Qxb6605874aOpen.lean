import Derived.Test.Qxb6605874aBase
import Derived.OpenShut
import Derived.WideShapes
namespace Go.Proofs.Qxb6605874a
open Go.RowKit Go.WideShapes
set_option linter.unusedVariables false

theorem take_one {cs : List Value} {k : Nat} {v : Value} (h : (cs.drop k).take 1 = [v]) : cs[k]? = some v := by
  have : ((cs.drop k).take 1)[0]? = some v := by rw [h]; rfl
  rw [List.getElem?_take] at this
  simpa using this

theorem cellsOf5 : Try.prog.cellsOf 5 = 1 := by kernel_rfl
theorem cellsOf3 : Try.prog.cellsOf 3 = 1 := by kernel_rfl
theorem cellsOf9 : Try.prog.cellsOf 9 = 1 := by kernel_rfl
theorem cellsOf22 : Try.prog.cellsOf 22 = 16 := by kernel_rfl
theorem cellsOf23 : Try.prog.cellsOf 23 = 1 := by kernel_rfl
theorem cellsOf25 : Try.prog.cellsOf 25 = 21 := by kernel_rfl
theorem cellsOf39 : Try.prog.cellsOf 39 = 3 := by kernel_rfl

def strAt : Option Value → ByteArray
  | some (.string s) => s
  | _ => ByteArray.empty
def intAt : Option Value → Int
  | some (.int _ n) => n
  | _ => 0

section
variable {H : Type} {enc : TypeId × Value → H} {w : World} {base : Nat} {spare : Nat → Bool} {held : Bool} {fuel : Nat}

theorem field_string {cs : List Value} {k : Nat} {y : Option (DataW H × List MemPlace)} (h : DataW.trod enc Try.prog w base spare held fuel 9 ((cs.drop k).take (Try.prog.cellsOf 9)) = y) (hy : y.isSome = true) :
    ∃ s : ByteArray, cs[k]? = some (.string s) ∧ s.size ≤ maxLen := by
  obtain ⟨x, rfl⟩ := Option.isSome_iff_exists.1 hy
  obtain ⟨s, h1, -, h2⟩ := DataW.trod_string Try.underlying9 h
  rw [cellsOf9] at h1
  exact ⟨s, take_one h1, h2⟩

theorem field_int {cs : List Value} {k : Nat} {y : Option (DataW H × List MemPlace)} (h : DataW.trod enc Try.prog w base spare held fuel 3 ((cs.drop k).take (Try.prog.cellsOf 3)) = y) (hy : y.isSome = true) :
    ∃ n : Int, cs[k]? = some (.int .i64 n) := by
  obtain ⟨x, rfl⟩ := Option.isSome_iff_exists.1 hy
  obtain ⟨n, h1, -, h2⟩ := DataW.trod_int Try.underlying3 h
  rw [cellsOf3] at h1
  exact ⟨n, take_one h1⟩

theorem field_digest {cs : List Value} {y : Option (DataW H × List MemPlace)} (h : DataW.trod enc Try.prog w base spare held fuel 22 ((cs.drop 2).take (Try.prog.cellsOf 22)) = y) (hy : y.isSome = true) :
    ∃ dg : List Int, dg.length = 16 ∧ (∀ x ∈ dg, 0 ≤ x ∧ x ≤ 255) ∧ ∀ i, i < 16 → cs[2 + i]? = some (.int .u8 (dg.getD i 0)) := by
  obtain ⟨x, rfl⟩ := Option.isSome_iff_exists.1 hy
  obtain ⟨xs, m, rfl, -, -, hx, hf⟩ := DataW.trod_array Try.underlying22 h
  have key : ∀ i, i < 16 → ∃ n : Int, cs[2 + i]? = some (.int .u8 n) ∧ 0 ≤ n ∧ n ≤ 255 := by
    intro i hi
    have h1 := hf i hi
    rw [List.getElem?_eq_getElem (by omega), cellsOf5, cellsOf22] at h1
    obtain ⟨n, h2, -, h3⟩ := DataW.trod_int Try.underlying5 h1
    have h4 := take_one h2
    rw [List.getElem?_take, if_pos (by omega), List.getElem?_drop, Nat.mul_one] at h4
    exact ⟨n, h4, bounds_u8 h3⟩
  refine ⟨(List.range 16).map fun i => intAt cs[2 + i]?, by simp, ?_, fun i hi => ?_⟩
  · intro x hx
    simp only [List.mem_map, List.mem_range] at hx
    obtain ⟨i, hi, rfl⟩ := hx
    obtain ⟨n, h1, h2⟩ := key i hi
    rw [h1]; exact h2
  · obtain ⟨n, h1, h2⟩ := key i hi
    rw [h1]
    simp [List.getD_eq_getElem?_getD, hi, h1, intAt]

theorem field_names {cs : List Value} {y : Option (DataW H × List MemPlace)} (h : DataW.trod enc Try.prog w base spare held fuel 23 ((cs.drop 20).take (Try.prog.cellsOf 23)) = y) (hy : y.isSome = true) :
    ∃ (a : Option Addr) (n c : Nat) (rs : List (ByteArray × Int × Int)), cs[20]? = some (.slice a n c) ∧ rs.length = n ∧ n ≤ maxLen ∧ (a = none → n = 0) ∧ (∀ r ∈ rs, r.1.size ≤ maxLen) ∧ Res w a rs := by
  obtain ⟨x, rfl⟩ := Option.isSome_iff_exists.1 hy
  rw [cellsOf23] at h
  rcases DataW.trod_slice Try.underlying23 h with ⟨h1, -⟩ | ⟨a, len, cap, elems, rest, m, rfl, h1, -, -, hlc, hcm, hel, hel2, -, -⟩
  · exact ⟨none, 0, 0, [], take_one h1, rfl, Nat.zero_le _, fun _ => rfl, by simp, fun hp => by simp at hp⟩
  · rw [cellsOf39] at hel2
    obtain ⟨b, off, spot⟩ := a
    have key : ∀ i, i < len → ∃ (s : ByteArray) (n1 n2 : Int), w.cell? (((⟨b, off, spot⟩ : Addr).add (i * 3)).add 0) = some (.string s) ∧ w.cell? (((⟨b, off, spot⟩ : Addr).add (i * 3)).add 1) = some (.int .i64 n1) ∧ w.cell? (((⟨b, off, spot⟩ : Addr).add (i * 3)).add 2) = some (.int .i64 n2) ∧ s.size ≤ maxLen := by
      intro i hi
      have h2 := hel2 i hi
      rw [List.getElem?_eq_getElem (by omega)] at h2
      obtain ⟨c3, h3, h4⟩ := Option.bind_eq_some_iff.1 h2
      obtain ⟨-, hl3, hc3⟩ := World.cells?_some h3
      obtain ⟨xs, m', rfl, -, -, hx, hf⟩ := DataW.trod_struct Try.underlying39 h4
      have hx : xs.length = 3 := hx
      obtain ⟨s, e0, hs⟩ := field_string (hf 0 _ rfl) (by simp [hx])
      obtain ⟨n1, e1⟩ := field_int (hf 1 _ rfl) (by simp [hx])
      obtain ⟨n2, e2⟩ := field_int (hf 2 _ rfl) (by simp [hx])
      exact ⟨s, n1, n2, (hc3 0 (by omega)).trans e0, (hc3 1 (by omega)).trans e1, (hc3 2 (by omega)).trans e2, hs⟩
    by_cases hp : len = 0
    · subst hp
      exact ⟨_, 0, cap, [], take_one h1, rfl, Nat.zero_le _, fun h => rfl, by simp, fun hp => by simp at hp⟩
    · have hspot : spot = none := by
        obtain ⟨s, n1, n2, e0, -⟩ := key 0 (by omega)
        have := World.cell?_spot e0
        simpa [Addr.add] using this
      subst hspot
      refine ⟨_, len, cap, (List.range len).map fun i => (strAt (w.cell? ⟨b, off + i * 3, none⟩), intAt (w.cell? ⟨b, off + i * 3 + 1, none⟩), intAt (w.cell? ⟨b, off + i * 3 + 2, none⟩)), take_one h1, by simp, by omega, (fun h => by cases h), ?_, ?_⟩
      · intro r hr
        simp only [List.mem_map, List.mem_range] at hr
        obtain ⟨i, hi, rfl⟩ := hr
        obtain ⟨s, n1, n2, e0, e1, e2, hs⟩ := key i hi
        rw [add_plain, add_plain] at e0
        simp only [Nat.add_zero] at e0
        rw [e0]; exact hs
      · intro _
        refine ⟨b, off, rfl, fun i hi => ?_⟩
        have hi' : i < len := by simpa using hi
        obtain ⟨s, n1, n2, e0, e1, e2, hs⟩ := key i hi'
        rw [add_plain, add_plain] at e0 e1 e2
        simp only [Nat.add_zero] at e0
        simp [e0, e1, e2, strAt, intAt]

theorem open_text {cs : Array Value} {x : DataW H × List MemPlace} (h : DataW.trod enc Try.prog w base spare held fuel 25 cs.toList = some x) :
    ∃ (id key : ByteArray) (dg : List Int) (ow tx : ByteArray) (a : Option Addr) (n c : Nat) (rs : List (ByteArray × Int × Int)), Tx cs id key dg ow tx a n c ∧ rs.length = n ∧ n ≤ maxLen ∧ (a = none → n = 0) ∧
      id.size ≤ maxLen ∧ key.size ≤ maxLen ∧ ow.size ≤ maxLen ∧ tx.size ≤ maxLen ∧ (∀ r ∈ rs, r.1.size ≤ maxLen) ∧ Res w a rs := by
  obtain ⟨xs, m, rfl, -, hl, hx, hf⟩ := DataW.trod_struct Try.underlying25 h
  have hx : xs.length = 6 := hx
  obtain ⟨id, e0, s0⟩ := field_string (hf 0 _ rfl) (by simp [hx])
  obtain ⟨key, e1, s1⟩ := field_string (hf 1 _ rfl) (by simp [hx])
  obtain ⟨dg, d1, d2, d3⟩ := field_digest (hf 2 _ rfl) (by simp [hx])
  obtain ⟨ow, e3, s3⟩ := field_string (hf 3 _ rfl) (by simp [hx])
  obtain ⟨tx, e4, s4⟩ := field_string (hf 4 _ rfl) (by simp [hx])
  obtain ⟨a, n, c, rs, e5, r1, r2, r3, r4, r5⟩ := field_names (hf 5 _ rfl) (by simp [hx])
  rw [cellsOf25] at hl
  refine ⟨id, key, dg, ow, tx, a, n, c, rs, ⟨by simpa using hl, d1, ?_, ?_, ?_, ?_, ?_, ?_⟩, r1, r2, r3, s0, s1, s3, s4, r4, r5⟩
  · simpa using e0
  · simpa using e1
  · intro i hi; simpa using d3 i hi
  · simpa using e3
  · simpa using e4
  · simpa using e5
end
end Go.Proofs.Qxb6605874a
