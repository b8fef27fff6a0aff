import Derived.Test.Qxb6613631aDoorJ
import Derived.Test.Qxb6613631aDoorRows
import Derived.ProofKit
import Derived.LaidMore
import Derived.OpenShut
import Derived.Stop.Joined
import Derived.ChangeSlices
import Derived.ChangeOld
import Derived.Below
namespace Go.Proofs.Qxb6613631aDoor
open Go.ChangeShapes Go.WideShapes Go.ChangeAt Go.RowKit

theorem Tryd.own : ownKnob Tryd.prog.godebug = none := by kernel_rfl
theorem Tryd.laidOut : laidOutB Tryd.prog = true := by kernel_rfl
theorem Tryd.cells5 : Tryd.prog.cellsOf 5 = 1 := by kernel_rfl

/-- the door's own heap meets the condition -/
theorem door_met (os : Os) (args : Array Value) : laidMetH Tryd.prog Rows.fnNewWriterWritesOneEndRecordRow.laid ((World.doorLaid Tryd.prog 400 os).forCall (fun _ _ => 0) ⟨#[], args, []⟩).memory :=
  laidMetH_of_parts3 (fuel := 8) (laidMet_of_run' 8 (by kernel_rfl) (by kernel_rfl)) (by kernel_rfl) (by kernel_rfl)

theorem addr_lit {w : World} {a : Addr} {v : Value} (h : w.cell? (a.add 0) = some v) : a = ⟨a.block, a.off, none⟩ ∧ a.block < w.heap.size := by
  obtain ⟨b, off, spot⟩ := a
  have e : (⟨b, off, spot⟩ : Addr).add 0 = ⟨b, off, spot⟩ := by simp [Addr.add]
  rw [e] at h
  have hspot : spot = none := World.cell?_spot h
  subst hspot
  exact ⟨rfl, World.block_lt_of_cell? w _ h⟩
theorem addr_cell {w : World} {a : Addr} {i : Nat} {v : Value} (ha : a = ⟨a.block, a.off, none⟩) (h : w.cell? (a.add i) = some v) : w.cell? ⟨a.block, a.off + i, none⟩ = some v := by
  rw [← add_plain, ← ha]
  exact h

theorem bytesArg_of {H : Type} {enc : TypeId × Value → H} {W : World} {a0 : Option Addr} {len cap : Nat} {d : DataW H} {p : List MemPlace} (h : DataW.Trod enc Tryd.prog W 0 (fun _ => true) true 25 (.slice a0 len cap) d p) :
    ∃ (Z : Nat → Int) (b off : Nat), (0 < len → a0 = some ⟨b, off, none⟩ ∧ b < W.heap.size) ∧ (a0 = none → len = 0) ∧ ∀ i, i < len → W.cell? ⟨b, off + i, none⟩ = some (.int .u8 (Z i)) := by
  obtain ⟨fuel, hf⟩ := h
  rcases open_ints Tryd.underlying25 Tryd.underlying5 Tryd.cells5 hf with ⟨hcs, _⟩ | ⟨a, l, c, zs, hcs, _, hl, hm, hz, _, hcell, hws⟩
  · simp [Value.cells] at hcs
    obtain ⟨rfl, rfl, rfl⟩ := hcs
    exact ⟨fun _ => 0, 0, 0, fun h => by omega, fun _ => rfl, fun i hi => by omega⟩
  · simp [Value.cells] at hcs
    obtain ⟨rfl, rfl, rfl⟩ := hcs
    simp only [if_true] at hz
    refine ⟨fun i => zs.getD i 0, a.block, a.off, fun h => ?_, fun h => (by cases h), fun i hi => ?_⟩
    · have := addr_lit (hcell 0 (by omega))
      exact ⟨congrArg some this.1, this.2⟩
    · exact addr_cell (addr_lit (hcell 0 (by omega))).1 (hcell i (by omega))

set_option maxRecDepth 100000 in
theorem lifted5 (os : Os) (started : os.Started) (H : Type) (enc : TypeId × Value → H) :
    ReturnsInHanded {} Tryd.checked os 5 .any (fun w args => (Rows.fnNewWriterWritesOneEndRecordSpec.pre enc Tryd.prog Tryd.f5 [] false w args ∧ laidMetH Tryd.prog Rows.fnNewWriterWritesOneEndRecordRow.laid w) ∧ sizedMet enc Tryd.prog Tryd.f5 (OpenSpec.ofChange Rows.fnNewWriterWritesOneEndRecordSpec) false w args)
      (Rows.fnNewWriterWritesOneEndRecordSpec.post enc Tryd.prog Tryd.f5 false true false false) := by
  refine returnsInHanded_of_change_and (C := Tryd.checked) (X := fun w _ => laidMetH Tryd.prog Rows.fnNewWriterWritesOneEndRecordRow.laid w) (fun _ _ _ hh h => h.of_heap hh) Tryd.own started (by kernel_rfl) Tryd.func5
    (ChangeSpec.witness_shaped (enc := enc) (C := Tryd.checked) (os := os) (X := fun w _ => laidMetH Tryd.prog Rows.fnNewWriterWritesOneEndRecordRow.laid w) false (World.doorLaid Tryd.prog 400 os) #[.slice none 0 0] 8 rfl (World.shaped_of_RefB (by kernel_rfl) (by kernel_rfl)) (by kernel_rfl) (by kernel_rfl) (by kernel_rfl) (door_met os _)) ?_
  intro W base args ds gs before hval0 hW _ _ hL _
  have hval : ∀ (j : Nat) t v, Tryd.f5.params[j]? = some t → args[j]? = some v → Value.okWide Tryd.prog W .any base t v := hval0
  have hW' := hW
  obtain ⟨p, q, hA0, hV, rfl, hfz, hnd⟩ := hW
  have hA : DataW.TrodAll enc Tryd.prog W 0 (fun _ => true) true Tryd.f5.params.toList args.toList ds p := hA0
  rw [Tryd.params5] at hA hval
  obtain ⟨v0, vs0, d0, ds0, p0, q0, hargs, rfl, rfl, h0, r0⟩ := trodAll_cons hA
  obtain ⟨rfl, rfl, rfl⟩ := trodAll_nil r0
  obtain rfl : args = #[v0] := by cases args; simp_all
  obtain ⟨rfl, rfl⟩ := trodVars_none hV
  obtain ⟨a0, len0, cap0, rfl⟩ := okWide_slice Tryd.underlying25 (hval 0 25 v0 rfl rfl)
  have lt0 : ∀ x ∈ p0, x.block < W.heap.size := by obtain ⟨m, hm⟩ := h0; exact DataW.trod_lt m _ _ _ hm
  obtain ⟨Z, b, off, g0, g1, g2⟩ := bytesArg_of h0
  clear hA0 hval0
  refine (law5_any Z a0 len0 cap0 b off W g0 g1 g2).mono fun e W' ⟨he, bel⟩ => ?_
  subst he
  exact ⟨_, rfl, _, _, _, [], _, [], hW', trodAll_mk1 (shut_bool Tryd.underlying4 _), (trodAll_cons_mk (Below.trod Tryd.laidOut (by kernel_rfl) (of_decide_eq_true (by kernel_rfl)) h0 bel lt0) trodAll_mk0), rfl, bel.frame _, fun h => by cases h⟩

theorem row5_proved : Rows.FnNewWriterWritesOneEndRecordSaid :=
  OpenClaim.holds_of_wide 5 Tryd.f5 rfl rfl rfl rfl rfl rfl rfl ⟨rfl, rfl, rfl, rfl, rfl⟩ rfl rfl rfl rfl rfl (by kernel_rfl) Tryd.func5 (by kernel_rfl)
    (of_decide_eq_true (by kernel_rfl)) (by unfold Func.isWrapper; first | (rw [if_pos (by decide +kernel)]; kernel_rfl) | (rw [if_neg (by decide +kernel)]; exact ⟨rfl, rfl⟩))
    (fun os started H enc _ => lifted5 os started H enc)
#print axioms row5_proved
end Go.Proofs.Qxb6613631aDoor
