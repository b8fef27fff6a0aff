import Derived.Test.Qxb6613631aDoorD
import Derived.Lib.Buffer
import Derived.Carry
import Derived.Deep.AppendLies
namespace Go.Proofs.Qxb6613631aDoor
open Go.RowKit

def BSize : Array Value := madeCells #[Value.int .u8 0] 4096
theorem BSize_size : BSize.size = 4096 := by simp [BSize, madeCells]
def NWPost (w : World) (wr : Value) (e : Ending) (w' : World) : Prop :=
  e = .returned (.pointer (some ⟨w.heap.size + 1, 0, none⟩)) ∧ w' = (w.alloc (.cells BSize 5)).alloc (.cells (BWc w.heap.size 0 wr) 120)

set_option maxRecDepth 100000 in
set_option maxHeartbeats 400000 in
theorem newWriterSize_any (b : Addr) (w : World) :
    Calls Tryd.prog 37 #[.iface 33 (.pointer (some b)), .int .i64 4096] w (NWPost w (.iface 33 (.pointer (some b)))) := by
  have hmk : ∀ wx : World, (Instr.makeSlice 25 (.int .i64 4096) (.int .i64 4096)).run Tryd.prog wx = .ok (.slice (some ⟨wx.heap.size, 0, none⟩) 4096 4096) (wx.alloc (.cells BSize 5)) :=
    fun wx => run_make_row' (P := Tryd.prog) 25 5 (.int .u8 0) 1 Tryd.underlying25 Tryd.info5 rfl .i64 .i64 4096 (by omega) (by omega) wx
  have ht := ta61no
  go_enter Tryd.func37, Tryd.ntmps37
  go_wp2
  go_ret
  exact ⟨rfl, rfl⟩

set_option maxRecDepth 100000 in
set_option maxHeartbeats 400000 in
theorem newBufWriter_any (b : Addr) (w : World) :
    Calls Tryd.prog 25 #[.iface 33 (.pointer (some b))] w (NWPost w (.iface 33 (.pointer (some b)))) := by
  have HN := hide (newWriterSize_any b w)
  go_enter Tryd.func25, Tryd.ntmps25
  go_wp2_with (go_at_call 37; refine (unhide HN).mono ?_; rintro e w1 ⟨rfl, rfl⟩)
  go_ret
  exact ⟨rfl, rfl⟩

/-- the zip.Writer's cells -/
def ZPost (w : World) (wr : Value) (e : Ending) (w' : World) : Prop :=
  e = .returned (.pointer (some ⟨w.heap.size + 3, 0, none⟩)) ∧ ∃ cm, w' = (((w.alloc (.cells BSize 5)).alloc (.cells (BWc w.heap.size 0 wr) 120)).alloc (.cells #[.iface 61 (.pointer (some ⟨w.heap.size + 1, 0, none⟩)), .int .i64 0] 64)).alloc (.cells #[.pointer (some ⟨w.heap.size + 2, 0, none⟩), .slice none 0 0, .pointer none, .bool false, cm, .string ⟨#[]⟩, .nilFunc] 70)

set_option maxRecDepth 100000 in
set_option maxHeartbeats 400000 in
theorem newZip_any (b : Addr) (w : World) :
    Calls Tryd.prog 19 #[.iface 33 (.pointer (some b))] w (ZPost w (.iface 33 (.pointer (some b)))) := by
  have HN := hide (newBufWriter_any b w)
  go_enter Tryd.func19, Tryd.ntmps19
  go_wp2_with (go_at_call 25; refine (unhide HN).mono ?_; rintro e w1 ⟨rfl, rfl⟩)
  go_ret
  exact ⟨rfl, _, rfl⟩

theorem cell_new (W : World) (p : Nat) (hp : p = W.heap.size) (cs : Array Value) (t : TypeId) : (W.alloc (.cells cs t)).cell? ⟨p, 0, none⟩ = cs[0]? := by
  subst hp
  exact cell_of_row _ _ _ _ _ _ (heap_alloc_new W _)
theorem ownsRow_kept {w w' : World} {B : Nat} {e : TypeId} {s : Nat} {v : Value} {n : Nat} {xs : List Value} (h : w.ownsRow B e s v n xs) (hk : ∀ k, k < w.heap.size → w'.heap[k]? = w.heap[k]?) : w'.ownsRow B e s v n xs := by
  obtain ⟨h1, h2⟩ := h
  refine ⟨h1, ?_⟩
  rcases h2 with h2 | ⟨g, cap, cur, hv, hg, hh, r⟩
  · exact Or.inl h2
  · exact Or.inr ⟨g, cap, cur, hv, hg, (hk g (lt_of_block hh)).trans hh, r⟩

/-- npz.NewWriter: behind the zip.Writer new blocks alone -/
def NPost (w : World) (wr : Value) (e : Ending) (w' : World) : Prop :=
  ∃ p cm wz, e = .returned (.pointer (some ⟨p, 0, none⟩)) ∧ wz = (((w.alloc (.cells BSize 5)).alloc (.cells (BWc w.heap.size 0 wr) 120)).alloc (.cells #[.iface 61 (.pointer (some ⟨w.heap.size + 1, 0, none⟩)), .int .i64 0] 64)).alloc (.cells #[.pointer (some ⟨w.heap.size + 2, 0, none⟩), .slice none 0 0, .pointer none, .bool false, cm, .string ⟨#[]⟩, .nilFunc] 70) ∧
    w'.cell? ⟨p, 0, none⟩ = some (.pointer (some ⟨w.heap.size + 3, 0, none⟩)) ∧ Below wz.heap.size wz w'

set_option maxRecDepth 100000 in
set_option maxHeartbeats 400000 in
theorem newNpz_any (b : Addr) (w : World) :
    Calls Tryd.prog 15 #[.iface 33 (.pointer (some b))] w (NPost w (.iface 33 (.pointer (some b)))) := by
  have HN := hide (newZip_any b w)
  have hmm := fun wx => run_makeMap (P := Tryd.prog) 50 wx
  go_enter Tryd.func15, Tryd.ntmps15
  go_wp2_with (go_at_call 19; refine (unhide HN).mono ?_; rintro e w1 ⟨rfl, cm, rfl⟩)
  go_ret
  refine ⟨_, cm, _, rfl, rfl, ?_, ((Below.refl _ _).alloc (Nat.le_refl _) _).alloc (by simp) _⟩
  exact (cell_new _ _ (by simp) _ _).trans rfl

set_option maxRecDepth 100000 in
set_option maxHeartbeats 400000 in
theorem newBuffer_any (v : Value) (a : Option Addr) (n c : Nat) (w : World) (hv : v = .slice a n c) :
    Calls Tryd.prog 14 #[v] w fun e w' => e = .returned (.pointer (some ⟨w.heap.size, 0, none⟩)) ∧ w' = w.alloc (.cells #[v, .int .i64 0, .int .i8 0] 45) := by
  subst hv
  go_enter Tryd.func14, Tryd.ntmps14
  go_wp2
  go_ret
  exact ⟨rfl, rfl⟩

end Go.Proofs.Qxb6613631aDoor
