import Derived.Test.Qxb6613631aDoorC
import Derived.Stop.Asserts
namespace Go.Proofs.Qxb6613631aDoor
open Go.RowKit

set_option maxRecDepth 100000 in
set_option maxHeartbeats 800000 in
theorem write0_any (bb gb : Nat) (buf : Array Value) (wr : Value) (a : Option Addr) (c : Nat) (w : World) (h : BW w bb gb buf 22 wr) :
    Calls Tryd.prog 77 #[.pointer (some ⟨bb, 0, none⟩), .slice a 0 c] w fun e w' => BWPost w bb gb buf 22 0 wr e w' := by
  obtain ⟨c0, c1, c2, c3⟩ := h.cells
  have HA := hide (available_any bb gb 22 w (by omega) c1 c2)
  have HW := hide h
  have f2 : w.frozen? ⟨bb, 2, none⟩ = false := free_of_block h.hb
  clear h c3
  go_enter Tryd.func77, Tryd.ntmps77
  go_wp2_with fail
  refine wp_loop_rounds 1 ?_
  rw [rounds_succ]
  go_wp2_with (go_at_call 76; refine (unhide HA).mono ?_; rintro e w1 ⟨rfl, q, rfl⟩)
  go_region_law (refine step_copy_none rfl (.tmp 80) (.tmp 81) 25 25 rfl 5 Tryd.underlying25 Tryd.size5 (some ⟨gb, 22, none⟩) a 4074 4074 0 c (by simp [Act.eval, Act.put]) (by simp [Act.eval, Act.put]) (by simp) ?_)
  all_goals
    go_wp2_with fail
    go_ret2
    exact ⟨rfl, ((unhide HW).drewN _).counted 22, ((KeptBut.refl _ w).drewN _).setCell (by simp) _⟩

theorem method61 (a : Addr) (w : World) : (method 271 61 (.pointer (some a)) "Write").run Tryd.prog w = .ok (77, .pointer (some a)) w := by kernel_rfl
theorem method60 (a : Addr) (w : World) : (method 271 60 (.pointer (some a)) "Write").run Tryd.prog w = .ok (31, .pointer (some a)) w := by kernel_rfl
theorem method33 (a : Addr) (w : World) : (method 271 33 (.pointer (some a)) "Write").run Tryd.prog w = .ok (68, .pointer (some a)) w := by kernel_rfl

/-- the countWriter at cb over the bufio.Writer at bb; cnt bytes counted -/
structure CW (w : World) (cb cnt bb gb : Nat) (buf : Array Value) (nb : Nat) (wr : Value) : Prop where
  bw : BW w bb gb buf nb wr
  hc : w.heap[cb]? = some (.cells #[.iface 61 (.pointer (some ⟨bb, 0, none⟩)), .int .i64 cnt] 64 (0, 0))
  n1 : cb ≠ bb
  n2 : cb ≠ gb
def CWPost (w : World) (cb cnt bb gb : Nat) (buf : Array Value) (nb n : Nat) (wr : Value) (e : Ending) (w' : World) : Prop :=
  e = .returned (.tuple #[.int .i64 n, .nilIface]) ∧ CW w' cb cnt bb gb buf nb wr ∧ KeptBut [cb, bb, gb] w w'

theorem CW.after {w w1 : World} {cb cnt bb gb : Nat} {buf buf' : Array Value} {nb nb' : Nat} {wr : Value} (h : CW w cb cnt bb gb buf nb wr) (hb : BW w1 bb gb buf' nb' wr) (hk : KeptBut [bb, gb] w w1) : CW w1 cb cnt bb gb buf' nb' wr :=
  ⟨hb, (hk.block cb (lt_of_block h.hc) (by simp [h.n1, h.n2])).trans h.hc, h.n1, h.n2⟩
theorem CW.counted {w : World} {cb cnt bb gb : Nat} {buf : Array Value} {nb : Nat} {wr : Value} (h : CW w cb cnt bb gb buf nb wr) (n : Nat) : CW (w.setCell ⟨cb, 1, none⟩ (.int .i64 n)) cb n bb gb buf nb wr :=
  ⟨⟨by rw [Below.heap_setCell _ _ _ _ (Ne.symm h.n1)]; exact h.bw.hb, by rw [Below.heap_setCell _ _ _ _ (Ne.symm h.n2)]; exact h.bw.hg, h.bw.len, h.bw.ne⟩, by rw [heap_setCell_at h.hc]; rfl, h.n1, h.n2⟩

set_option maxRecDepth 100000 in
set_option maxHeartbeats 400000 in
theorem cw22_any (cb bb gb g : Nat) (buf : Array Value) (wr : Value) (cs : List Value) (t : TypeId) (w : World) (h : CW w cb 0 bb gb buf 0 wr) (hl : cs.length = 22) (h1 : ∀ v ∈ cs, v.oneCell' = true)
    (hsrc : w.heap[g]? = some (.cells cs.toArray t (0, 0))) :
    Calls Tryd.prog 31 #[.pointer (some ⟨cb, 0, none⟩), .slice (some ⟨g, 0, none⟩) 22 22] w fun e w' => CWPost w cb 22 bb gb (laid buf 0 cs) 22 22 wr e w' := by
  have c0 : w.cell? ⟨cb, 0, none⟩ = some (.iface 61 (.pointer (some ⟨bb, 0, none⟩))) := by rw [cell_of_row _ _ _ _ _ _ h.hc]; rfl
  have HB := hide (write22_any bb gb g buf wr cs t w h.bw hl h1 hsrc)
  have hm := method61
  have HC := hide h
  clear h hl h1 hsrc
  go_enter Tryd.func31, Tryd.ntmps31
  go_wp2_with (go_at_call 77; refine (unhide HB).mono ?_; rintro e w1 ⟨rfl, hw, hk⟩; have HC1 := hide ((unhide HC).after hw hk); have HK := hide hk; clear hw hk; have d1 : w1.cell? ⟨cb, 1, none⟩ = some (.int .i64 0) := by { rw [cell_of_row _ _ _ _ _ _ (unhide HC1).hc]; rfl }; have d2 : w1.frozen? ⟨cb, 1, none⟩ = false := free_of_block (unhide HC1).hc)
  go_ret2
  exact ⟨rfl, (unhide HC1).counted 22, ((unhide HK).mono (by simp)).setCell (by simp) _⟩

set_option maxRecDepth 100000 in
set_option maxHeartbeats 400000 in
theorem cw0_any (cb bb gb : Nat) (buf : Array Value) (wr : Value) (a : Option Addr) (c : Nat) (w : World) (h : CW w cb 22 bb gb buf 22 wr) :
    Calls Tryd.prog 31 #[.pointer (some ⟨cb, 0, none⟩), .slice a 0 c] w fun e w' => CWPost w cb 22 bb gb buf 22 0 wr e w' := by
  have c0 : w.cell? ⟨cb, 0, none⟩ = some (.iface 61 (.pointer (some ⟨bb, 0, none⟩))) := by rw [cell_of_row _ _ _ _ _ _ h.hc]; rfl
  have HB := hide (write0_any bb gb buf wr a c w h.bw)
  have hm := method61
  have HC := hide h
  clear h
  go_enter Tryd.func31, Tryd.ntmps31
  go_wp2_with (go_at_call 77; refine (unhide HB).mono ?_; rintro e w1 ⟨rfl, hw, hk⟩; have HC1 := hide ((unhide HC).after hw hk); have HK := hide hk; clear hw hk; have d1 : w1.cell? ⟨cb, 1, none⟩ = some (.int .i64 22) := by { rw [cell_of_row _ _ _ _ _ _ (unhide HC1).hc]; rfl }; have d2 : w1.frozen? ⟨cb, 1, none⟩ = false := free_of_block (unhide HC1).hc)
  go_ret2
  exact ⟨rfl, (unhide HC1).counted 22, ((unhide HK).mono (by simp)).setCell (by simp) _⟩

theorem ta116 (a : Addr) (w : World) : (Instr.typeAssert (.iface 60 (.pointer (some a))) 47 116 true).run Tryd.prog w = .ok (.tuple #[.nilIface, .bool false]) w := run_typeAssert_lacksB Tryd.underlying116 (by kernel_rfl) (by kernel_rfl) _ _ w
theorem ta61no (a : Addr) (w : World) : (Instr.typeAssert (.iface 33 (.pointer (some a))) 47 61 true).run Tryd.prog w = .ok (.tuple #[.pointer none, .bool false]) w := by kernel_rfl
theorem ta61yes (a : Addr) (w : World) : (Instr.typeAssert (.iface 61 (.pointer (some a))) 47 61 false).run Tryd.prog w = .ok (.pointer (some a)) w := by kernel_rfl
theorem CW.drewN {w : World} {cb cnt bb gb : Nat} {buf : Array Value} {nb : Nat} {wr : Value} (h : CW w cb cnt bb gb buf nb wr) (q : Nat) : CW (w.drewN q) cb cnt bb gb buf nb wr := ⟨h.bw.drewN q, h.hc, h.n1, h.n2⟩
theorem CW.alloc {w : World} {cb cnt bb gb : Nat} {buf : Array Value} {nb : Nat} {wr : Value} (h : CW w cb cnt bb gb buf nb wr) (o : Obj) : CW (w.alloc o) cb cnt bb gb buf nb wr :=
  ⟨⟨by rw [Below.heap_alloc _ _ _ (lt_of_block h.bw.hb)]; exact h.bw.hb, by rw [Below.heap_alloc _ _ _ (lt_of_block h.bw.hg)]; exact h.bw.hg, h.bw.len, h.bw.ne⟩, by rw [Below.heap_alloc _ _ _ (lt_of_block h.hc)]; exact h.hc, h.n1, h.n2⟩
theorem CW.drew {w : World} {cb cnt bb gb : Nat} {buf : Array Value} {nb : Nat} {wr : Value} (h : CW w cb cnt bb gb buf nb wr) : CW w.drew cb cnt bb gb buf nb wr := h.drewN 1

set_option maxRecDepth 100000 in
set_option maxHeartbeats 400000 in
theorem ws_any (cb bb gb : Nat) (buf : Array Value) (wr : Value) (w : World) (h : CW w cb 22 bb gb buf 22 wr) :
    Calls Tryd.prog 32 #[.iface 60 (.pointer (some ⟨cb, 0, none⟩)), .string ⟨#[]⟩] w fun e w' => CWPost w cb 22 bb gb buf 22 0 wr e w' := by
  have HC := hide h
  have hm := method60
  have ht := ta116
  have hv := fun wx => run_bytes_of_string (P := Tryd.prog) wx 9 25 5 ⟨#[]⟩ Tryd.underlying9 Tryd.underlying25 Tryd.underlying5
  clear h
  go_enter Tryd.func32, Tryd.ntmps32
  go_wp2_with (go_at_call 31; refine (cw0_any cb bb gb buf wr _ _ _ (by exact ((unhide HC).alloc _).drew)).mono ?_; rintro e w1 ⟨rfl, hw, hk⟩; have HW := hide hw; have HK := hide hk; clear hw hk)
  go_ret2
  exact ⟨rfl, unhide HW, (((KeptBut.refl _ w).alloc _).drew).trans (unhide HK)⟩
end Go.Proofs.Qxb6613631aDoor
