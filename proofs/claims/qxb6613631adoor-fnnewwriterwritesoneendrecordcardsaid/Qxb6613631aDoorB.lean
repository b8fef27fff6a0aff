import Derived.Test.Qxb6613631aDoorA
import Derived.Deep.RegionWith
namespace Go.Proofs.Qxb6613631aDoor
open Go.RowKit

theorem heap_setCell_at {w : World} {b o : Nat} {cs : Array Value} {t : TypeId} {fr : Nat × Nat} (h : w.heap[b]? = some (.cells cs t fr)) (u : Value) : (w.setCell ⟨b, o, none⟩ u).heap[b]? = some (.cells (cs.setIfInBounds o u) t fr) := by
  have hlt := lt_of_block h
  have h' : w.heap[b] = .cells cs t fr := by simpa [Array.getElem?_eq_getElem hlt] using h
  show (w.heap.modify b _)[b]? = _
  rw [Array.getElem?_eq_getElem (by simpa using hlt), Array.getElem_modify_self, h']
  rfl
theorem free_of_block {w : World} {b o : Nat} {cs : Array Value} {t : TypeId} (h : w.heap[b]? = some (.cells cs t (0, 0))) : w.frozen? ⟨b, o, none⟩ = false := by simp [World.frozen?, h]

/-- four bytes laid from off on, behind the callee's own empty block -/
def put4 (w : World) (g off : Nat) (a b c d : Int) : World :=
  ((((w.setCell ⟨g, off, none⟩ (.int .u8 a)).setCell ⟨g, off + 1, none⟩ (.int .u8 b)).setCell ⟨g, off + 2, none⟩ (.int .u8 c)).setCell ⟨g, off + 3, none⟩ (.int .u8 d)).alloc (.cells #[] 111)
def put2 (w : World) (g off : Nat) (a b : Int) : World :=
  ((w.setCell ⟨g, off, none⟩ (.int .u8 a)).setCell ⟨g, off + 1, none⟩ (.int .u8 b)).alloc (.cells #[] 111)

set_option maxRecDepth 100000 in
set_option maxHeartbeats 400000 in
theorem put32_sig (g off n c : Nat) (x0 x1 x2 x3 : Value) (w : World) (hn : 4 ≤ n)
    (c0 : w.cell? ⟨g, off, none⟩ = some x0) (c1 : w.cell? ⟨g, off + 1, none⟩ = some x1) (c2 : w.cell? ⟨g, off + 2, none⟩ = some x2) (c3 : w.cell? ⟨g, off + 3, none⟩ = some x3)
    (f : ∀ o, w.frozen? ⟨g, o, none⟩ = false) (hg : g < w.heap.size) :
    Calls Tryd.prog 41 #[.agg #[], .slice (some ⟨g, off, none⟩) n c, .int .u32 101010256] w fun e w' => e = .returned (.tuple #[]) ∧ w' = put4 w g off 80 75 5 6 := by
  go_enter Tryd.func41, Tryd.ntmps41
  go_wp2
  go_end0
  exact ⟨rfl, rfl⟩

set_option maxRecDepth 100000 in
set_option maxHeartbeats 400000 in
theorem put32_zero (g off n c : Nat) (x0 x1 x2 x3 : Value) (w : World) (hn : 4 ≤ n)
    (c0 : w.cell? ⟨g, off, none⟩ = some x0) (c1 : w.cell? ⟨g, off + 1, none⟩ = some x1) (c2 : w.cell? ⟨g, off + 2, none⟩ = some x2) (c3 : w.cell? ⟨g, off + 3, none⟩ = some x3)
    (f : ∀ o, w.frozen? ⟨g, o, none⟩ = false) (hg : g < w.heap.size) :
    Calls Tryd.prog 41 #[.agg #[], .slice (some ⟨g, off, none⟩) n c, .int .u32 0] w fun e w' => e = .returned (.tuple #[]) ∧ w' = put4 w g off 0 0 0 0 := by
  go_enter Tryd.func41, Tryd.ntmps41
  go_wp2
  go_end0
  exact ⟨rfl, rfl⟩

set_option maxRecDepth 100000 in
set_option maxHeartbeats 400000 in
theorem put16_zero (g off n c : Nat) (x0 x1 : Value) (w : World) (hn : 2 ≤ n)
    (c0 : w.cell? ⟨g, off, none⟩ = some x0) (c1 : w.cell? ⟨g, off + 1, none⟩ = some x1) (f : ∀ o, w.frozen? ⟨g, o, none⟩ = false) (hg : g < w.heap.size) :
    Calls Tryd.prog 39 #[.agg #[], .slice (some ⟨g, off, none⟩) n c, .int .u16 0] w fun e w' => e = .returned (.tuple #[]) ∧ w' = put2 w g off 0 0 := by
  go_enter Tryd.func39, Tryd.ntmps39
  go_wp2
  go_end0
  exact ⟨rfl, rfl⟩

/-- the call's state: the array's block g (its cells), the reader's block b (what is left) -/
structure WB (w0 w : World) (g b : Nat) (cur : Array Value) (v : Value) : Prop where
  hg : w.heap[g]? = some (.cells cur 100 (0, 0))
  hb : w.heap[b]? = some (.cells #[v] 91 (0, 0))
  bel : Below g w0 w
  ne : g < b

theorem put4_heap {w : World} {g off : Nat} {a b c d : Int} {cur : Array Value} {t : TypeId} (h : w.heap[g]? = some (.cells cur t (0, 0))) :
    (put4 w g off a b c d).heap[g]? = some (.cells ((((cur.setIfInBounds off (.int .u8 a)).setIfInBounds (off + 1) (.int .u8 b)).setIfInBounds (off + 2) (.int .u8 c)).setIfInBounds (off + 3) (.int .u8 d)) t (0, 0)) := by
  unfold put4
  rw [Below.heap_alloc _ _ _ (by have := lt_of_block h; simpa [World.setCell] using this)]
  exact heap_setCell_at (heap_setCell_at (heap_setCell_at (heap_setCell_at h _) _) _) _
theorem put2_heap {w : World} {g off : Nat} {a b : Int} {cur : Array Value} {t : TypeId} (h : w.heap[g]? = some (.cells cur t (0, 0))) :
    (put2 w g off a b).heap[g]? = some (.cells ((cur.setIfInBounds off (.int .u8 a)).setIfInBounds (off + 1) (.int .u8 b)) t (0, 0)) := by
  unfold put2
  rw [Below.heap_alloc _ _ _ (by have := lt_of_block h; simpa [World.setCell] using this)]
  exact heap_setCell_at (heap_setCell_at h _) _
theorem put4_other {w : World} {g off k : Nat} {a b c d : Int} (hk : k < w.heap.size) (hne : k ≠ g) : (put4 w g off a b c d).heap[k]? = w.heap[k]? := by
  unfold put4
  rw [Below.heap_alloc _ _ _ (by simpa [World.setCell] using hk), Below.heap_setCell _ _ _ _ hne, Below.heap_setCell _ _ _ _ hne, Below.heap_setCell _ _ _ _ hne, Below.heap_setCell _ _ _ _ hne]
theorem put2_other {w : World} {g off k : Nat} {a b : Int} (hk : k < w.heap.size) (hne : k ≠ g) : (put2 w g off a b).heap[k]? = w.heap[k]? := by
  unfold put2
  rw [Below.heap_alloc _ _ _ (by simpa [World.setCell] using hk), Below.heap_setCell _ _ _ _ hne, Below.heap_setCell _ _ _ _ hne]
theorem put4_below {w0 w : World} {g off : Nat} {a b c d : Int} (h : Below g w0 w) (hg : g ≤ w.heap.size) : Below g w0 (put4 w g off a b c d) := by
  unfold put4
  exact ((((h.setCell (Nat.le_refl _) _).setCell (Nat.le_refl _) _).setCell (Nat.le_refl _) _).setCell (Nat.le_refl _) _).alloc (by simpa [World.setCell] using hg) _
theorem put2_below {w0 w : World} {g off : Nat} {a b : Int} (h : Below g w0 w) (hg : g ≤ w.heap.size) : Below g w0 (put2 w g off a b) := by
  unfold put2
  exact ((h.setCell (Nat.le_refl _) _).setCell (Nat.le_refl _) _).alloc (by simpa [World.setCell] using hg) _

/-- behind the bytes and the reslice -/
def UPost (w0 : World) (g b : Nat) (cur : Array Value) (v : Value) (e : Ending) (w' : World) : Prop := e = .returned (.tuple #[]) ∧ WB w0 w' g b cur v

theorem cell_some {w : World} {g o : Nat} {cur : Array Value} {t : TypeId} {fr : Nat × Nat} (h : w.heap[g]? = some (.cells cur t fr)) (ho : o < cur.size) : ∃ x, w.cell? ⟨g, o, none⟩ = some x := by
  rw [cell_of_row _ _ _ _ _ _ h]
  exact ⟨_, Array.getElem?_eq_getElem ho⟩

theorem WB.put4 {w0 w : World} {g b off : Nat} {cur : Array Value} {v v' : Value} {x y z u : Int} (h : WB w0 w g b cur v) :
    WB w0 ((Qxb6613631aDoor.put4 w g off x y z u).setCell ⟨b, 0, none⟩ v') g b ((((cur.setIfInBounds off (.int .u8 x)).setIfInBounds (off + 1) (.int .u8 y)).setIfInBounds (off + 2) (.int .u8 z)).setIfInBounds (off + 3) (.int .u8 u)) v' where
  hg := by rw [Below.heap_setCell _ _ _ _ (by have := h.ne; simp; omega)]; exact put4_heap h.hg
  hb := one_setCell (by rw [put4_other (lt_of_block h.hb) (by have := h.ne; omega)]; exact h.hb)
  bel := (put4_below h.bel (Nat.le_of_lt (lt_of_block h.hg))).setCell (by have := h.ne; simp; omega) _
  ne := h.ne
theorem WB.put2 {w0 w : World} {g b off : Nat} {cur : Array Value} {v v' : Value} {x y : Int} (h : WB w0 w g b cur v) :
    WB w0 ((Qxb6613631aDoor.put2 w g off x y).setCell ⟨b, 0, none⟩ v') g b ((cur.setIfInBounds off (.int .u8 x)).setIfInBounds (off + 1) (.int .u8 y)) v' where
  hg := by rw [Below.heap_setCell _ _ _ _ (by have := h.ne; simp; omega)]; exact put2_heap h.hg
  hb := one_setCell (by rw [put2_other (lt_of_block h.hb) (by have := h.ne; omega)]; exact h.hb)
  bel := (put2_below h.bel (Nat.le_of_lt (lt_of_block h.hg))).setCell (by have := h.ne; simp; omega) _
  ne := h.ne

theorem WB.drew {w0 w : World} {g b : Nat} {cur : Array Value} {v : Value} (h : WB w0 w g b cur v) : WB w0 w.drew g b cur v := ⟨h.hg, h.hb, h.bel.drew, h.ne⟩

set_option maxRecDepth 100000 in
set_option maxHeartbeats 400000 in
theorem uint32_sig (g b off n c : Nat) (cur : Array Value) (w0 w : World) (h : WB w0 w g b cur (.slice (some ⟨g, off, none⟩) n c)) (hn : 4 ≤ n) (hc : n ≤ c) (hoff : off + 4 ≤ cur.size) (h4 : 4 < c) (hsz : c ≤ 22) :
    Calls Tryd.prog 30 #[.pointer (some ⟨b, 0, none⟩), .int .u32 101010256] w fun e w' => UPost w0 g b ((((cur.setIfInBounds off (.int .u8 80)).setIfInBounds (off + 1) (.int .u8 75)).setIfInBounds (off + 2) (.int .u8 5)).setIfInBounds (off + 3) (.int .u8 6)) (.slice (some ⟨g, off + 4, none⟩) (n - 4) (c - 4)) e w' := by
  obtain ⟨x0, c0⟩ := cell_some h.hg (o := off) (by omega)
  obtain ⟨x1, c1⟩ := cell_some h.hg (o := off + 1) (by omega)
  obtain ⟨x2, c2⟩ := cell_some h.hg (o := off + 2) (by omega)
  obtain ⟨x3, c3⟩ := cell_some h.hg (o := off + 3) (by omega)
  have HW := hide h
  have hbc : w.cell? ⟨b, 0, none⟩ = some (.slice (some ⟨g, off, none⟩) n c) := cell_of_one h.hb
  have hp := put32_sig g off n c x0 x1 x2 x3 w.drew hn c0 c1 c2 c3 (fun o => free_of_block h.hg) (lt_of_block h.hg)
  have HP := hide hp
  have x4 : (put4 w.drew g off 80 75 5 6).heap[b]? = some (.cells #[.slice (some ⟨g, off, none⟩) n c] 91 (0, 0)) := (put4_other (lt_of_block h.hb) (by have := h.ne; omega)).trans h.hb
  have y1 : (put4 w.drew g off 80 75 5 6).cell? ⟨b, 0, none⟩ = some (.slice (some ⟨g, off, none⟩) n c) := cell_of_one x4
  have y2 : (put4 w.drew g off 80 75 5 6).frozen? ⟨b, 0, none⟩ = false := free_of_one x4
  have y3 : ¬ c = 4 := by omega
  have y4 : (4 : Int) ≤ (n : Int) := by omega
  have y5 : (n : Int) ≤ (c : Int) := by omega
  clear h hp c0 c1 c2 c3 x4
  go_enter Tryd.func30, Tryd.ntmps30
  go_wp2
  go_region_with (go_at_call 41; refine (unhide HP).mono ?_; rintro e w1 ⟨rfl, rfl⟩)
  all_goals
    go_wp2
    go_end0
    exact ⟨rfl, (unhide HW).drew.put4⟩

set_option maxRecDepth 100000 in
set_option maxHeartbeats 400000 in
theorem uint32_zero (g b off n c : Nat) (cur : Array Value) (w0 w : World) (h : WB w0 w g b cur (.slice (some ⟨g, off, none⟩) n c)) (hn : 4 ≤ n) (hc : n ≤ c) (hoff : off + 4 ≤ cur.size) (h4 : 4 < c) (hsz : c ≤ 22) :
    Calls Tryd.prog 30 #[.pointer (some ⟨b, 0, none⟩), .int .u32 0] w fun e w' => UPost w0 g b ((((cur.setIfInBounds off (.int .u8 0)).setIfInBounds (off + 1) (.int .u8 0)).setIfInBounds (off + 2) (.int .u8 0)).setIfInBounds (off + 3) (.int .u8 0)) (.slice (some ⟨g, off + 4, none⟩) (n - 4) (c - 4)) e w' := by
  obtain ⟨x0, c0⟩ := cell_some h.hg (o := off) (by omega)
  obtain ⟨x1, c1⟩ := cell_some h.hg (o := off + 1) (by omega)
  obtain ⟨x2, c2⟩ := cell_some h.hg (o := off + 2) (by omega)
  obtain ⟨x3, c3⟩ := cell_some h.hg (o := off + 3) (by omega)
  have HW := hide h
  have hbc : w.cell? ⟨b, 0, none⟩ = some (.slice (some ⟨g, off, none⟩) n c) := cell_of_one h.hb
  have hp := put32_zero g off n c x0 x1 x2 x3 w.drew hn c0 c1 c2 c3 (fun o => free_of_block h.hg) (lt_of_block h.hg)
  have HP := hide hp
  have x4 : (put4 w.drew g off 0 0 0 0).heap[b]? = some (.cells #[.slice (some ⟨g, off, none⟩) n c] 91 (0, 0)) := (put4_other (lt_of_block h.hb) (by have := h.ne; omega)).trans h.hb
  have y1 : (put4 w.drew g off 0 0 0 0).cell? ⟨b, 0, none⟩ = some (.slice (some ⟨g, off, none⟩) n c) := cell_of_one x4
  have y2 : (put4 w.drew g off 0 0 0 0).frozen? ⟨b, 0, none⟩ = false := free_of_one x4
  have y3 : ¬ c = 4 := by omega
  have y4 : (4 : Int) ≤ (n : Int) := by omega
  have y5 : (n : Int) ≤ (c : Int) := by omega
  clear h hp c0 c1 c2 c3 x4
  go_enter Tryd.func30, Tryd.ntmps30
  go_wp2
  go_region_with (go_at_call 41; refine (unhide HP).mono ?_; rintro e w1 ⟨rfl, rfl⟩)
  all_goals
    go_wp2
    go_end0
    exact ⟨rfl, (unhide HW).drew.put4⟩

set_option maxRecDepth 100000 in
set_option maxHeartbeats 400000 in
theorem uint16_zero (g b off n c : Nat) (cur : Array Value) (w0 w : World) (h : WB w0 w g b cur (.slice (some ⟨g, off, none⟩) n c)) (hn : 2 ≤ n) (hc : n ≤ c) (hoff : off + 2 ≤ cur.size) (h4 : 2 < c) (hsz : c ≤ 22) :
    Calls Tryd.prog 28 #[.pointer (some ⟨b, 0, none⟩), .int .u16 0] w fun e w' => UPost w0 g b ((cur.setIfInBounds off (.int .u8 0)).setIfInBounds (off + 1) (.int .u8 0)) (.slice (some ⟨g, off + 2, none⟩) (n - 2) (c - 2)) e w' := by
  obtain ⟨x0, c0⟩ := cell_some h.hg (o := off) (by omega)
  obtain ⟨x1, c1⟩ := cell_some h.hg (o := off + 1) (by omega)
  have HW := hide h
  have hbc := cell_of_one h.hb
  have hp := put16_zero g off n c x0 x1 w.drew hn c0 c1 (fun o => free_of_block h.hg) (lt_of_block h.hg)
  have HP := hide hp
  have x4 := (put2_other (off := off) (a := 0) (b := 0) (w := w.drew) (lt_of_block h.hb) (by have := h.ne; omega : b ≠ g)).trans h.hb
  have y1 := cell_of_one x4
  have y2 := free_of_one x4
  have y3 : ¬ c = 2 := by omega
  have y4 : (2 : Int) ≤ ((n : Int)) := by omega
  have y5 : ((n : Int)) ≤ ((c : Int)) := by omega
  clear h hp c0 c1 x4
  go_enter Tryd.func28, Tryd.ntmps28
  go_wp2
  go_region_with (go_at_call 39; refine (unhide HP).mono ?_; rintro e w1 ⟨rfl, rfl⟩)
  all_goals
    go_wp2
    go_end0
    exact ⟨rfl, (unhide HW).drew.put2⟩

/-- behind the last bytes: what is left is empty -/
def ULast (w0 : World) (g b : Nat) (cur : Array Value) (e : Ending) (w' : World) : Prop := e = .returned (.tuple #[]) ∧ ∃ v, WB w0 w' g b cur v

set_option maxRecDepth 100000 in
set_option maxHeartbeats 400000 in
theorem uint16_last (g b off n c : Nat) (cur : Array Value) (w0 w : World) (h : WB w0 w g b cur (.slice (some ⟨g, off, none⟩) n c)) (hn : 2 ≤ n) (hc : n ≤ c) (hoff : off + 2 ≤ cur.size) (hsz : c = 2) :
    Calls Tryd.prog 28 #[.pointer (some ⟨b, 0, none⟩), .int .u16 0] w fun e w' => ULast w0 g b ((cur.setIfInBounds off (.int .u8 0)).setIfInBounds (off + 1) (.int .u8 0)) e w' := by
  subst hsz
  obtain rfl : n = 2 := by omega
  obtain ⟨x0, c0⟩ := cell_some h.hg (o := off) (by omega)
  obtain ⟨x1, c1⟩ := cell_some h.hg (o := off + 1) (by omega)
  have HW := hide h
  have hbc := cell_of_one h.hb
  have hp := put16_zero g off 2 2 x0 x1 w.drew hn c0 c1 (fun o => free_of_block h.hg) (lt_of_block h.hg)
  have HP := hide hp
  have x4 := (put2_other (off := off) (a := 0) (b := 0) (w := w.drew) (lt_of_block h.hb) (by have := h.ne; omega : b ≠ g)).trans h.hb
  have y1 := cell_of_one x4
  have y2 := free_of_one x4
  have y4 : (2 : Int) ≤ (2) := by omega
  have y5 : ((2 : Int)) ≤ (2) := by omega
  clear h hp c0 c1 x4
  go_enter Tryd.func28, Tryd.ntmps28
  go_wp2
  go_region_with (go_at_call 39; refine (unhide HP).mono ?_; rintro e w1 ⟨rfl, rfl⟩)
  all_goals
    go_wp2
    go_end0
    exact ⟨rfl, _, (unhide HW).drew.put2⟩

end Go.Proofs.Qxb6613631aDoor
