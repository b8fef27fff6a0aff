import Derived.Test.Qxb6613626aLawA
import Derived.Test.Qxb6613626aRows
import Derived.ProofKit
import Derived.ChangeOld
import Derived.Below
import Derived.Deep.Matrix
import Derived.SliceStrings
namespace Go.Proofs.Qxb6613626a
open Go.ChangeShapes Go.WideShapes Go.ChangeAt Go.RowKit

theorem Try.own : ownKnob Try.prog.godebug = none := by kernel_rfl
theorem Try.laidOut : laidOutB Try.prog = true := by kernel_rfl
theorem Try.cells9 : Try.prog.cellsOf 9 = 1 := by kernel_rfl
theorem Try.cells27 : Try.prog.cellsOf 27 = 1 := by kernel_rfl
theorem Try.cells3 : Try.prog.cellsOf 3 = 1 := by kernel_rfl

theorem addr_lit {w : World} {a : Addr} {v : Value} (h : w.cell? (a.add 0) = some v) : a = ⟨a.block, a.off, none⟩ ∧ a.block < w.heap.size := by
  obtain ⟨b, off, spot⟩ := a
  have e : (⟨b, off, spot⟩ : Addr).add 0 = ⟨b, off, spot⟩ := by simp [Addr.add]
  rw [e] at h
  have hspot : spot = none := World.cell?_spot h
  subst hspot
  exact ⟨rfl, World.block_lt_of_cell? w _ h⟩
theorem addr_cell {w : World} {a : Addr} {i : Nat} {v : Value} (ha : a = ⟨a.block, a.off, none⟩) (h : w.cell? (a.add i) = some v) : w.cell? ⟨a.block, a.off + i, none⟩ = some v := by
  rw [← add_plain, ← ha]
  exact h

theorem strArg_of {H : Type} {enc : TypeId × Value → H} {W : World} {a0 : Option Addr} {len cap : Nat} {d : DataW H} {p : List MemPlace} (h : DataW.Trod enc Try.prog W 0 (fun _ => true) true 22 (.slice a0 len cap) d p) :
    ∃ S b o, StrArg W a0 len S b o := by
  obtain ⟨fuel, hf⟩ := h
  rcases open_strings Try.underlying22 Try.underlying9 Try.cells9 hf with ⟨hcs, _⟩ | ⟨a, l, c, ss, hcs, _, hl, hm, hz, _, hcell, hws⟩
  · simp [Value.cells] at hcs
    obtain ⟨rfl, rfl, rfl⟩ := hcs
    exact ⟨fun _ => ByteArray.empty, 0, 0, ⟨fun _ => rfl, fun h => by omega, fun h => by omega, fun i hi => by omega, fun i hi => by omega⟩⟩
  · simp [Value.cells] at hcs
    obtain ⟨rfl, rfl, rfl⟩ := hcs
    simp only [if_true] at hz
    refine ⟨fun i => ss.getD i ByteArray.empty, a.block, a.off, ⟨fun h => by (cases h), fun h => ?_, fun h => ?_, fun i hi => ?_, fun i hi => ?_⟩⟩
    · rw [← (addr_lit (hcell 0 (by omega))).1]
    · exact (addr_lit (hcell 0 (by omega))).2
    · exact addr_cell (addr_lit (hcell 0 (by omega))).1 (hcell i (by omega))
    · refine hws _ ?_
      have hi' : i < ss.length := by omega
      simp [List.getElem?_eq_getElem hi']

theorem rowsArg_of {H : Type} {enc : TypeId × Value → H} {W : World} {a0 : Option Addr} {len cap : Nat} {d : DataW H} {p : List MemPlace} (h : DataW.Trod enc Try.prog W 0 (fun _ => true) true 23 (.slice a0 len cap) d p) :
    ∃ A L C Bk Of Z b o, RowsArg W a0 len A L C Bk Of Z b o := by
  obtain ⟨fuel, hf⟩ := h
  rcases Go.Deep.open_int_rows Try.underlying23 Try.underlying27 Try.underlying3 Try.cells27 Try.cells3 hf with ⟨hcs, _⟩ | ⟨a, l, c, A, L, C, Z, hcs, _, hl, hm, _, hr⟩
  · simp [Value.cells] at hcs
    obtain ⟨rfl, rfl, rfl⟩ := hcs
    exact ⟨fun _ => none, fun _ => 0, fun _ => 0, fun _ => 0, fun _ => 0, fun _ _ => 0, 0, 0, ⟨fun h => by omega, fun h => by omega, fun i hi => by omega, fun i hi => by omega, fun i hi => by omega, fun i hi => by omega⟩⟩
  · simp [Value.cells] at hcs
    obtain ⟨rfl, rfl, rfl⟩ := hcs
    have key : ∀ i, i < len → 0 < L i → ∃ x, A i = some x ∧ ∀ k, k < L i → W.cell? (x.add k) = some (.int .i64 ((Z i).getD k 0)) := by
      intro i hi hL
      obtain ⟨_, h1, _, _, _, h5, h6⟩ := hr i (by omega)
      cases hA : A i with
      | none => have := h5 hA; omega
      | some x => exact ⟨x, rfl, fun k hk => (h6 x hA).2 k (by omega)⟩
    refine ⟨A, L, C, fun i => ((A i).map (·.block)).getD 0, fun i => ((A i).map (·.off)).getD 0, fun i k => (Z i).getD k 0, a.block, a.off, ⟨fun h => ?_, fun h => ?_, fun i hi => ?_, fun i hi hL => ?_, fun i hi hL => ?_, fun i hi k hk => ?_⟩⟩
    · rw [← (addr_lit (hr 0 (by omega)).1).1]
    · exact (addr_lit (hr 0 (by omega)).1).2
    · exact addr_cell (addr_lit (hr 0 (by omega)).1).1 (hr i (by omega)).1
    · obtain ⟨x, hx, hc⟩ := key i hi hL
      rw [hx]
      simp only [Option.map_some, Option.getD_some]
      rw [← (addr_lit (hc 0 hL)).1]
    · obtain ⟨x, hx, hc⟩ := key i hi hL
      simp only [hx, Option.map_some, Option.getD_some]
      exact (addr_lit (hc 0 hL)).2
    · obtain ⟨x, hx, hc⟩ := key i hi (by omega)
      simp only [hx, Option.map_some, Option.getD_some]
      exact addr_cell (addr_lit (hc 0 (by omega))).1 (hc k hk)
end Go.Proofs.Qxb6613626a
