import Derived.Test.Qxb6613631aDoorD
import Derived.Lib.BufferOwn
import Derived.Lib.Builder
import Derived.OneCell
import Derived.Lib.OwnKind
namespace Go.Proofs.Qxb6613631aDoor
open Go.RowKit

/-- the buffer keeps what it holds where another block's cell is written -/
theorem isBuffer_far {B b : Nat} {bs : List Value} {w : World} (h : Lib.IsBuffer 45 5 B b bs w) {a : Addr} {cs : Array Value} {T : TypeId} {fr : Nat × Nat} (hb : a.block ≠ b) (ho : w.heap[a.block]? = some (.cells cs T fr)) (hT : T ≠ 5) (u : Value) : Lib.IsBuffer 45 5 B b bs (w.setCell a u) := by
  obtain ⟨hB, v, lr, h1, h2, h3⟩ := h
  exact ⟨hB, v, lr, by rw [Below.heap_setCell _ _ _ _ (Ne.symm hb)]; exact h1, ownsRow_setCell_other h2 (Lib.ownBlock_ne h2 ho hT) u, h3⟩
theorem isBuffer_drewN {B b : Nat} {bs : List Value} {w : World} (h : Lib.IsBuffer 45 5 B b bs w) (q : Nat) : Lib.IsBuffer 45 5 B b bs (w.drewN q) := h

/-- what Buffer.Write says -/
def BufPost (w : World) (B b : Nat) (bs : List Value) (e : Ending) (w' : World) : Prop :=
  e = .returned (.tuple #[.int .i64 22, .nilIface]) ∧ Lib.IsBuffer 45 5 B b bs w' ∧ Below B w w' ∧ Lib.OthersKept 5 (some b) w w'
def FlPost (w : World) (B b : Nat) (bs : List Value) (e : Ending) (w' : World) : Prop :=
  e = .returned .nilIface ∧ Lib.IsBuffer 45 5 B b bs w' ∧ Below B w w'

set_option maxRecDepth 100000 in
set_option maxHeartbeats 800000 in
theorem flush_any (B bb gb b : Nat) (buf : Array Value) (bs : List Value) (w : World) (h : BW w bb gb buf 22 (.iface 33 (.pointer (some ⟨b, 0, none⟩)))) (hbb : B ≤ bb) (hne : bb ≠ b)
    (HB : ∀ q, Calls Tryd.prog 68 #[.pointer (some ⟨b, 0, none⟩), .slice (some ⟨gb, 0, none⟩) 22 4096] (w.drewN q) (BufPost w B b bs)) :
    Calls Tryd.prog 33 #[.pointer (some ⟨bb, 0, none⟩)] w (FlPost w B b bs) := by
  obtain ⟨c0, c1, c2, c3⟩ := h.cells
  have hm := method33
  have HW := hide h
  have HX := hide HB
  clear h HB
  go_enter Tryd.func33, Tryd.ntmps33
  go_wp2_with fail
  go_region_with (go_at_call 68; refine (unhide HX _).mono ?_; rintro e w1 ⟨rfl, h1, h2, h3⟩)
  all_goals
    have HI := hide h1
    have HB2 := hide h2
    have kb := h3 bb _ (unhide HW).hb (by simp [hne]) (by simp)
    clear h1 h2 h3
    have d2 : w1.cell? ⟨bb, 2, none⟩ = some (.int .i64 22) := by { rw [cell_of_row _ _ _ _ _ _ kb]; rfl }
    have f2 : w1.frozen? ⟨bb, 2, none⟩ = false := free_of_block kb
    have HK := hide kb
    clear kb
    go_wp2_with fail
  all_goals
    go_ret
    exact ⟨rfl, isBuffer_far (unhide HI) hne (unhide HK) (by decide) _, (unhide HB2).setCell hbb _⟩
end Go.Proofs.Qxb6613631aDoor
