import Derived.Test.Qxb6613727aG
import Derived.Test.Qxb6613727aRows
import Derived.ProofKit
import Derived.ChangeOld
import Derived.Below
import Derived.OpenShut
import Derived.ChangeSlices
import Derived.Deep.Slices
namespace Go.Proofs.Qxb6613727a
open Go.ChangeShapes Go.WideShapes Go.ChangeAt Go.RowKit

theorem Try.own : ownKnob Try.prog.godebug = none := by kernel_rfl
theorem Try.laidOut : laidOutB Try.prog = true := by kernel_rfl
theorem Try.cells44 : Try.prog.cellsOf 44 = 131 := by kernel_rfl
theorem Try.cells41 : Try.prog.cellsOf 41 = 1 := by kernel_rfl
theorem Try.cells23 : Try.prog.cellsOf 23 = 1 := by kernel_rfl
theorem Try.cells42 : Try.prog.cellsOf 42 = 32 := by kernel_rfl
theorem Try.cells24 : Try.prog.cellsOf 24 = 1 := by kernel_rfl
theorem Try.cells5 : Try.prog.cellsOf 5 = 1 := by kernel_rfl

theorem addr_lit {w : World} {a : Addr} {v : Value} (h : w.cell? (a.add 0) = some v) : a = ⟨a.block, a.off, none⟩ ∧ a.block < w.heap.size := by
  obtain ⟨b, off, spot⟩ := a
  have e : (⟨b, off, spot⟩ : Addr).add 0 = ⟨b, off, spot⟩ := by simp [Addr.add]
  rw [e] at h
  have hspot : spot = none := World.cell?_spot h
  subst hspot
  exact ⟨rfl, World.block_lt_of_cell? w _ h⟩

section
variable {H : Type} {enc : TypeId × Value → H} {W : World}

theorem one_at {cs : List Value} {o : Nat} {v : Value} (h : (cs.drop o).take 1 = [v]) : cs[o]? = some v := by
  have := congrArg (fun l => l[0]?) h
  simpa [List.getElem?_take, List.getElem?_drop] using this

/-- the cells of an array of bytes inside the element -/
theorem arr_at {n : Nat} {cs : List Value} {o : Nat} {y : DataW H × List MemPlace} (h : DataW.trod enc Try.prog W 0 (fun _ => true) true n 42 ((cs.drop o).take 32) = some y) : ∀ j, j < 32 → ∃ z, cs[o + j]? = some (.int .u8 z) := by
  intro j hj
  obtain ⟨xs, m, _, _, _, hl, hel⟩ := DataW.trod_array Try.underlying42 h
  have h1 := hel j hj
  rw [Try.cells5, Nat.mul_one] at h1
  have hx : j < xs.length := by omega
  rw [List.getElem?_eq_getElem hx] at h1
  obtain ⟨z, hz, _⟩ := DataW.trod_int Try.underlying5 h1
  refine ⟨z, ?_⟩
  have h2 := one_at hz
  rw [List.getElem?_take, if_pos hj, List.getElem?_drop] at h2
  exact h2

theorem elem_of {n : Nat} {cs : List Value} {y : DataW H × List MemPlace} (h : DataW.trod enc Try.prog W 0 (fun _ => true) true n 44 cs = some y) :
    cs.length = 131 ∧ (∀ v ∈ cs, v.oneCell' = true) ∧ (∃ r, cs[0]? = some (.int .u32 r)) ∧ (∃ s, cs[1]? = some (.int .u64 s)) ∧ ∃ (l c : Nat) (a : Option Addr), cs[130]? = some (.slice a l c) ∧ (l : Int) ≤ 9223372036854775807 := by
  obtain ⟨xs, m, _, _, hl, hlen, hf⟩ := DataW.trod_struct Try.underlying44 h
  rw [Try.cells44] at hl
  have hx : xs.length = 7 := by simpa using hlen
  have g0 : DataW.trod enc Try.prog W 0 (fun _ => true) true m 41 ((cs.drop 0).take (Try.prog.cellsOf 41)) = _ := (hf 0 _ rfl).trans (List.getElem?_eq_getElem (show 0 < xs.length by omega))
  have g1 : DataW.trod enc Try.prog W 0 (fun _ => true) true m 23 ((cs.drop 1).take (Try.prog.cellsOf 23)) = _ := (hf 1 _ rfl).trans (List.getElem?_eq_getElem (show 1 < xs.length by omega))
  have g2 : DataW.trod enc Try.prog W 0 (fun _ => true) true m 42 ((cs.drop 2).take (Try.prog.cellsOf 42)) = _ := (hf 2 _ rfl).trans (List.getElem?_eq_getElem (show 2 < xs.length by omega))
  have g3 : DataW.trod enc Try.prog W 0 (fun _ => true) true m 42 ((cs.drop 34).take (Try.prog.cellsOf 42)) = _ := (hf 3 _ rfl).trans (List.getElem?_eq_getElem (show 3 < xs.length by omega))
  have g4 : DataW.trod enc Try.prog W 0 (fun _ => true) true m 42 ((cs.drop 66).take (Try.prog.cellsOf 42)) = _ := (hf 4 _ rfl).trans (List.getElem?_eq_getElem (show 4 < xs.length by omega))
  have g5 : DataW.trod enc Try.prog W 0 (fun _ => true) true m 42 ((cs.drop 98).take (Try.prog.cellsOf 42)) = _ := (hf 5 _ rfl).trans (List.getElem?_eq_getElem (show 5 < xs.length by omega))
  have g6 : DataW.trod enc Try.prog W 0 (fun _ => true) true m 24 ((cs.drop 130).take (Try.prog.cellsOf 24)) = _ := (hf 6 _ rfl).trans (List.getElem?_eq_getElem (show 6 < xs.length by omega))
  clear hf
  rw [Try.cells41] at g0
  rw [Try.cells23] at g1
  rw [Try.cells42] at g2 g3 g4 g5
  rw [Try.cells24] at g6
  obtain ⟨r, hr, _⟩ := DataW.trod_int Try.underlying41 g0
  obtain ⟨q, hq, _⟩ := DataW.trod_int Try.underlying23 g1
  have k0 := one_at hr
  have k1 := one_at hq
  have k2 := arr_at g2
  have k3 := arr_at g3
  have k4 := arr_at g4
  have k5 := arr_at g5
  have k6 : ∃ (l c : Nat) (a : Option Addr), cs[130]? = some (.slice a l c) ∧ (l : Int) ≤ 9223372036854775807 := by
    rcases DataW.trod_slice Try.underlying24 g6 with ⟨hc, _⟩ | ⟨a, len, cap, _, _, _, _, hc, _, _, hle, hm, _⟩
    · exact ⟨0, 0, none, one_at hc, by omega⟩
    · refine ⟨len, cap, some a, one_at hc, ?_⟩
      unfold maxLen at hm
      omega
  refine ⟨hl, fun v hv => ?_, ⟨r, k0⟩, ⟨q, k1⟩, k6⟩
  obtain ⟨j, hj⟩ := List.getElem?_of_mem hv
  have hj' : j < 131 := by have := (List.getElem?_eq_some_iff.1 hj).1; omega
  have arr : ∀ o, (∀ j, j < 32 → ∃ z, cs[o + j]? = some (.int .u8 z)) → o ≤ j → j < o + 32 → v.oneCell' = true := by
    intro o h h1 h2
    obtain ⟨z, hz⟩ := h (j - o) (by omega)
    rw [show o + (j - o) = j by omega, hj] at hz
    cases hz; rfl
  by_cases e0 : j = 0
  · subst e0; rw [k0] at hj; cases hj; rfl
  by_cases e1 : j = 1
  · subst e1; rw [k1] at hj; cases hj; rfl
  by_cases e2 : j < 34
  · exact arr 2 k2 (by omega) (by omega)
  by_cases e3 : j < 66
  · exact arr 34 k3 (by omega) (by omega)
  by_cases e4 : j < 98
  · exact arr 66 k4 (by omega) (by omega)
  by_cases e5 : j < 130
  · exact arr 98 k5 (by omega) (by omega)
  obtain rfl : j = 130 := by omega
  obtain ⟨l, c, a, h6, _⟩ := k6
  rw [h6] at hj; cases hj; rfl

theorem ckArg_of {a0 : Option Addr} {len cap : Nat} {d : DataW H} {p : List MemPlace} (h : DataW.Trod enc Try.prog W 0 (fun _ => true) true 22 (.slice a0 len cap) d p) :
    ∃ b off E S, CK W a0 len b off E S := by
  obtain ⟨fuel, hf⟩ := h
  rcases Go.Deep.open_slice Try.underlying22 hf with ⟨hcs, _⟩ | ⟨a, l, c, m, n, D, Pl, hcs, _, hl, hm, hmm, _, hel⟩
  · simp [Value.cells] at hcs
    obtain ⟨rfl, rfl, rfl⟩ := hcs
    exact ⟨0, 0, fun _ => [], fun _ => 0, ⟨fun _ => rfl, by omega, fun h => by omega, fun h => by omega, fun i hi => by omega, fun i hi => by omega, fun i hi => by omega, fun i hi => by omega, fun i hi => by omega, fun i hi => by omega⟩⟩
  · simp [Value.cells] at hcs
    obtain ⟨rfl, rfl, rfl⟩ := hcs
    have hlm : len ≤ m := by simp only [if_true] at hmm; omega
    rw [Try.cells44] at hel
    obtain ⟨E, hE⟩ := Go.Deep.choose_lt (n := len) (p := fun i cs' => W.cells? 0 (a.add (i * 131)) 131 = some cs' ∧ DataW.trod enc Try.prog W 0 (fun _ => true) true n 44 cs' = some (D i, Pl i)) (fun i hi => hel i (by omega))
    obtain ⟨S, hS⟩ := Go.Deep.choose_lt (n := len) (p := fun i s => (E i)[1]? = some (.int .u64 s)) (fun i hi => (elem_of (hE i hi).2).2.2.2.1)
    have cell : ∀ i, i < len → ∀ j, j < 131 → W.cell? ((a.add (i * 131)).add j) = (E i)[j]? := fun i hi => (World.cells?_some (hE i hi).1).2.2
    have first : 0 < len → a = ⟨a.block, a.off, none⟩ ∧ a.block < W.heap.size := fun h0 => by
      obtain ⟨r, hr⟩ := (elem_of (hE 0 h0).2).2.2.1
      have := cell 0 h0 0 (by omega)
      rw [hr, Go.Deep.add_add] at this
      exact addr_lit this
    refine ⟨a.block, a.off, E, S, ⟨fun h => (by cases h), by unfold maxLen at hm; omega, fun h0 => by rw [← (first h0).1], fun h0 => (first h0).2, fun i hi j v hv => ?_, fun i hi => (elem_of (hE i hi).2).1, fun i hi => (elem_of (hE i hi).2).2.1, fun i hi => (elem_of (hE i hi).2).2.2.1, hS, fun i hi => (elem_of (hE i hi).2).2.2.2.2⟩⟩
    have hj : j < 131 := by have := (List.getElem?_eq_some_iff.1 hv).1; rw [(elem_of (hE i hi).2).1] at this; exact this
    have := cell i hi j hj
    rw [hv, (first (by omega)).1, Addr.add_mid, Addr.add_mid] at this
    exact this
end
end Go.Proofs.Qxb6613727a
