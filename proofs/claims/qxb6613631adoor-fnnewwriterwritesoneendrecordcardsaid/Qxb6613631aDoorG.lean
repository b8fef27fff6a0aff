import Derived.Test.Qxb6613631aDoorF
namespace Go.Proofs.Qxb6613631aDoor
open Go.RowKit

/-- the zip.Writer's cells -/
def ZWc (cb : Nat) (cl : Bool) (cm : Value) : Array Value := #[.pointer (some ⟨cb, 0, none⟩), .slice none 0 0, .pointer none, .bool cl, cm, .string ⟨#[]⟩, .nilFunc]
theorem ZWc_set (cb : Nat) (cm : Value) : (ZWc cb false cm).setIfInBounds 3 (.bool true) = ZWc cb true cm := rfl
theorem zw_cells {w : World} {zb cb : Nat} {cl : Bool} {cm : Value} (h : w.heap[zb]? = some (.cells (ZWc cb cl cm) 70 (0, 0))) :
    w.cell? ⟨zb, 0, none⟩ = some (.pointer (some ⟨cb, 0, none⟩)) ∧ w.cell? ⟨zb, 1, none⟩ = some (.slice none 0 0) ∧ w.cell? ⟨zb, 2, none⟩ = some (.pointer none) ∧ w.cell? ⟨zb, 3, none⟩ = some (.bool cl) ∧
      w.cell? ⟨zb, 5, none⟩ = some (.string ⟨#[]⟩) ∧ w.cell? ⟨zb, 6, none⟩ = some .nilFunc := by
  refine ⟨?_, ?_, ?_, ?_, ?_, ?_⟩ <;> (rw [cell_of_row _ _ _ _ _ _ h]; rfl)
theorem cw_cells {w : World} {cb cnt bb gb : Nat} {buf : Array Value} {nb : Nat} {wr : Value} (h : CW w cb cnt bb gb buf nb wr) :
    w.cell? ⟨cb, 0, none⟩ = some (.iface 61 (.pointer (some ⟨bb, 0, none⟩))) ∧ w.cell? ⟨cb, 1, none⟩ = some (.int .i64 cnt) := by
  refine ⟨?_, ?_⟩ <;> (rw [cell_of_row _ _ _ _ _ _ h.hc]; rfl)

/-- CW over a world that keeps what lay below n -/
theorem CW.kept {w w' : World} {n cb cnt bb gb : Nat} {buf : Array Value} {nb : Nat} {wr : Value} (h : CW w cb cnt bb gb buf nb wr) (hb : Below n w w') (h1 : cb < n) (h2 : bb < n) (h3 : gb < n) : CW w' cb cnt bb gb buf nb wr :=
  ⟨⟨(hb.block _ h2).trans h.bw.hb, (hb.block _ h3).trans h.bw.hg, h.bw.len, h.bw.ne⟩, (hb.block _ h1).trans h.hc, h.n1, h.n2⟩
theorem WB.set {w0 w : World} {g b : Nat} {cur : Array Value} {v : Value} (h : WB w0 w g b cur v) (v' : Value) : WB w0 (w.setCell ⟨b, 0, none⟩ v') g b cur v' :=
  ⟨by rw [Below.heap_setCell _ _ _ _ (by have := h.ne; show g ≠ b; omega)]; exact h.hg, by rw [heap_setCell_at h.hb]; rfl, h.bel.setCell (by have := h.ne; show g ≤ b; omega) _, h.ne⟩
theorem WB.cast {w0 w : World} {g b : Nat} {cur cur' : Array Value} {v : Value} (h : WB w0 w g b cur v) (e : cur = cur') : WB w0 w g b cur' v := e ▸ h
theorem WB.new (w0 : World) (g b : Nat) (Z : Array Value) (v : Value) (hg : g = w0.heap.size) (hb : b = w0.heap.size + 1) : WB w0 ((w0.alloc (.cells Z 100)).alloc (.cells #[v] 91)) g b Z v := by
  subst hg hb
  refine ⟨?_, ?_, (Below.refl _ _).alloc (Nat.le_refl _) _ |>.alloc (by simp) _, by omega⟩
  · rw [Below.heap_alloc _ _ _ (by simp)]; exact heap_alloc_new _ _
  · have := heap_alloc_new (w0.alloc (.cells Z 100)) (.cells #[v] 91); rwa [show (w0.alloc (.cells Z 100)).heap.size = w0.heap.size + 1 by simp] at this
theorem KeptBut.ofBelow {l : List Nat} {a b : World} {n : Nat} (h : Below n a b) (hn : a.heap.size ≤ n) : KeptBut l a b := ⟨h.os, h.tape, h.output, h.size, fun k hk _ => h.block k (by omega)⟩
def E22 : Array Value := endRec.toArray
def Z22 : Array Value := #[.int .u8 0, .int .u8 0, .int .u8 0, .int .u8 0, .int .u8 0, .int .u8 0, .int .u8 0, .int .u8 0, .int .u8 0, .int .u8 0, .int .u8 0, .int .u8 0, .int .u8 0, .int .u8 0, .int .u8 0, .int .u8 0, .int .u8 0, .int .u8 0, .int .u8 0, .int .u8 0, .int .u8 0, .int .u8 0]
theorem sig_laid : (((Z22.setIfInBounds 0 (.int .u8 80)).setIfInBounds (0 + 1) (.int .u8 75)).setIfInBounds (0 + 2) (.int .u8 5)).setIfInBounds (0 + 3) (.int .u8 6) = E22 := rfl
theorem zero16_8 : (E22.setIfInBounds 8 (.int .u8 0)).setIfInBounds (8 + 1) (.int .u8 0) = E22 := rfl
theorem zero16_10 : (E22.setIfInBounds 10 (.int .u8 0)).setIfInBounds (10 + 1) (.int .u8 0) = E22 := rfl
theorem zero32_12 : (((E22.setIfInBounds 12 (.int .u8 0)).setIfInBounds (12 + 1) (.int .u8 0)).setIfInBounds (12 + 2) (.int .u8 0)).setIfInBounds (12 + 3) (.int .u8 0) = E22 := rfl
theorem zero32_16 : (((E22.setIfInBounds 16 (.int .u8 0)).setIfInBounds (16 + 1) (.int .u8 0)).setIfInBounds (16 + 2) (.int .u8 0)).setIfInBounds (16 + 3) (.int .u8 0) = E22 := rfl
theorem zero16_20 : (E22.setIfInBounds 20 (.int .u8 0)).setIfInBounds (20 + 1) (.int .u8 0) = E22 := rfl
theorem E22_size : E22.size = 22 := rfl
theorem nilFunc_neq (w : World) : (binOp .neq 68 .nilFunc .nilFunc).run Tryd.prog w = .ok (.bool false) w := by kernel_rfl

set_option maxRecDepth 100000 in
set_option maxHeartbeats 3200000 in
theorem zipClose_any (B zb cb bb gb b : Nat) (cm : Value) (buf : Array Value) (bs : List Value) (w : World) (h : CW w cb 0 bb gb buf 0 (.iface 33 (.pointer (some ⟨b, 0, none⟩)))) (hz : w.heap[zb]? = some (.cells (ZWc cb false cm) 70 (0, 0)))
    (n1 : zb ≠ cb) (n2 : zb ≠ bb) (n3 : zb ≠ gb) (n4 : bb ≠ b) (n5 : gb ≠ b) (b1 : B ≤ zb) (b2 : B ≤ cb) (b3 : B ≤ bb) (b4 : B ≤ gb)
    (hI : ∀ w', KeptBut [zb, cb, bb, gb] w w' → Lib.IsBuffer 45 5 B b bs w') (h1 : ∀ v ∈ bs, v.oneCell' = true) (hlim : bs.length ≤ 1048576) :
    Calls Tryd.prog 20 #[.pointer (some ⟨zb, 0, none⟩)] w (FlPost w B b (bs ++ endRec)) := by
  obtain ⟨c0, c1, c2, c3, c5, c6⟩ := zw_cells hz
  have f3 : w.frozen? ⟨zb, 3, none⟩ = false := free_of_block hz
  have hz0 : (w.setCell ⟨zb, 3, none⟩ (.bool true)).heap[zb]? = some (.cells (ZWc cb true cm) 70 (0, 0)) := heap_setCell_at hz _
  have H0 : CW (w.setCell ⟨zb, 3, none⟩ (.bool true)) cb 0 bb gb buf 0 (.iface 33 (.pointer (some ⟨b, 0, none⟩))) :=
    ⟨⟨by rw [Below.heap_setCell _ _ _ _ (Ne.symm n2)]; exact h.bw.hb, by rw [Below.heap_setCell _ _ _ _ (Ne.symm n3)]; exact h.bw.hg, h.bw.len, h.bw.ne⟩, by rw [Below.heap_setCell _ _ _ _ (Ne.symm n1)]; exact h.hc, h.n1, h.n2⟩
  obtain ⟨e0, e1, e2, e3, e5, e6⟩ := zw_cells hz0
  obtain ⟨k0, k1⟩ := cw_cells H0
  have HC := hide H0
  have HZ := hide hz0
  have hnf := nilFunc_neq
  have lz := hide (lt_of_block hz)
  have lc := hide (lt_of_block h.hc)
  have lb := hide (lt_of_block h.bw.hb)
  have lg := hide (lt_of_block h.bw.hg)
  have HI := hide hI
  have sz0 : (w.setCell ⟨zb, 3, none⟩ (.bool true)).heap.size = w.heap.size := by simp [World.setCell]
  have HS := hide (WB.new (w.setCell ⟨zb, 3, none⟩ (.bool true)) w.heap.size (w.heap.size + 1) Z22 (.slice (some ⟨w.heap.size, 0, none⟩) 22 22) sz0.symm (by rw [sz0]))
  have HK0 := hide ((KeptBut.refl [zb, cb, bb, gb] w).setCell (p := ⟨zb, 3, none⟩) (by simp) (.bool true))
  have S0 := hide sz0
  clear h hz H0 hz0 hI sz0
  go_enter Tryd.func20, Tryd.ntmps20
  go_wp2_with fail
  refine wp_loop_rounds 1 ?_
  rw [rounds_succ]
  go_wp2_with fail
  go_at_call 30
  refine (uint32_sig w.heap.size (w.heap.size + 1) 0 22 22 Z22 _ _ (by exact unhide HS) (by decide) (by decide) (by decide) (by decide) (by decide)).mono ?_
  rintro e w4 ⟨rfl, h4⟩
  have HW4 := hide (h4.cast sig_laid)
  clear h4 HS
  have y4 : w4.cell? ⟨w.heap.size + 1, 0, none⟩ = some (.slice (some ⟨w.heap.size, 4, none⟩) 18 18) := cell_of_one (unhide HW4).hb
  have z4 : w4.frozen? ⟨w.heap.size + 1, 0, none⟩ = false := free_of_one (unhide HW4).hb
  have m16 : min (65535 : Int) 0 = 0 := by decide
  have m32 : min (4294967295 : Int) 0 = 0 := by decide
  go_wp2_with fail
  go_at_call 28
  refine (uint16_zero w.heap.size (w.heap.size + 1) 8 14 14 E22 _ _ (by exact (unhide HW4).set _) (by decide) (by decide) (by decide) (by decide) (by decide)).mono ?_
  rintro e w10 ⟨rfl, h10⟩
  have HW10 := hide (h10.cast zero16_8)
  clear h10 HW4
  go_wp2_with fail
  go_at_call 28
  refine (uint16_zero w.heap.size (w.heap.size + 1) 10 12 12 E22 _ w10 (by exact unhide HW10) (by decide) (by decide) (by decide) (by decide) (by decide)).mono ?_
  rintro e w12 ⟨rfl, h12⟩
  have HW12 := hide (h12.cast zero16_10)
  clear h12 HW10
  go_wp2_with fail
  go_at_call 30
  refine (uint32_zero w.heap.size (w.heap.size + 1) 12 10 10 E22 _ w12 (by exact unhide HW12) (by decide) (by decide) (by decide) (by decide) (by decide)).mono ?_
  rintro e w16 ⟨rfl, h16⟩
  have HW16 := hide (h16.cast zero32_12)
  clear h16 HW12
  go_wp2_with fail
  go_at_call 30
  refine (uint32_zero w.heap.size (w.heap.size + 1) 16 6 6 E22 _ w16 (by exact unhide HW16) (by decide) (by decide) (by decide) (by decide) (by decide)).mono ?_
  rintro e w20 ⟨rfl, h20⟩
  have HW20 := hide (h20.cast zero32_16)
  clear h20 HW16
  have y20 : w20.cell? ⟨zb, 5, none⟩ = some (.string ⟨#[]⟩) := ((unhide HW20).bel.cell (p := ⟨zb, 5, none⟩) (unhide lz)).trans e5
  go_wp2_with fail
  go_at_call 28
  refine (uint16_last w.heap.size (w.heap.size + 1) 20 2 2 E22 _ w20 (by exact unhide HW20) (by decide) (by decide) (by decide) rfl).mono ?_
  rintro e w22 ⟨rfl, vv, h22⟩
  have HW22 := hide (h22.cast zero16_20)
  clear h22 HW20
  have y22 : w22.cell? ⟨zb, 0, none⟩ = some (.pointer (some ⟨cb, 0, none⟩)) := ((unhide HW22).bel.cell (p := ⟨zb, 0, none⟩) (unhide lz)).trans e0
  go_wp2_with fail
  clear c0 c1 c2 c3 c5 c6 f3 e1 e2 e3 e6 k0 k1 y4 z4 y20
  have HC22 := hide ((unhide HC).kept (unhide HW22).bel (unhide lc) (unhide lb) (unhide lg))
  go_region_with (go_at_call 31; refine (cw22_any cb bb gb w.heap.size buf _ endRec 100 _ (by exact (unhide HC22).drewN _) rfl endRec_one (by exact (unhide HW22).hg)).mono ?_; rintro e w23 ⟨rfl, h23, k23⟩)
  have HC23 := hide h23
  have HK23 := hide ((((unhide HK0).trans (KeptBut.ofBelow (unhide HW22).bel (Nat.le_of_eq (unhide S0)))).drewN _).trans (k23.mono (by simp)))
  have q0 := (k23.block zb (Nat.lt_of_lt_of_le (Nat.lt_of_lt_of_le (unhide lz) (Nat.le_of_eq (unhide S0).symm)) (unhide HW22).bel.size) (by simp [n1, n2, n3])).trans (((unhide HW22).bel.block zb (unhide lz)).trans (unhide HZ))
  have HZ23 := hide q0
  obtain ⟨p0, -, -, -, p5, -⟩ := zw_cells q0
  clear h23 k23 q0 y22 e0 e5 HC HZ HK0 HC22
  go_wp2_with fail
  go_region_with (go_at_call 32; refine (ws_any cb bb gb _ _ _ (by exact (unhide HC23).drewN _)).mono ?_; rintro e w24 ⟨rfl, h24, k24⟩)
  all_goals
    have HC24 := hide h24
    have HK24 := hide (((unhide HK23).drewN _).trans (k24.mono (by simp)))
    have q0 := (k24.block zb (lt_of_block (unhide HZ23)) (by simp [n1, n2, n3])).trans (unhide HZ23)
    obtain ⟨p0, -, -, -, p5, -⟩ := zw_cells q0
    obtain ⟨k0, -⟩ := cw_cells h24
    have ht := ta61yes
    have HF := hide (flush_full B bb gb b buf bs w24 h24.bw b3 n4 n5 (unhide HI _ (unhide HK24)) h1 hlim)
    clear h24 k24 q0
    go_wp2_with (go_at_call 33; refine (unhide HF).mono ?_; rintro e w25 ⟨rfl, h25, b25⟩; have HI25 := hide h25; have HB25 := hide b25; clear h25 b25)
    go_ret
    exact ⟨rfl, unhide HI25, ((unhide HK24).below (by have := unhide lz; omega) (by intro x hx; simp at hx; omega)).trans (unhide HB25)⟩
end Go.Proofs.Qxb6613631aDoor
