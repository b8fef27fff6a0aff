import Derived.Test.Qxb6613626aTab
namespace Go.Proofs.Qxb6613626a
open Go.RowKit Go.Maps

/-- a key's cells -/
def Kc (kind : ByteArray) (cv : Value) : Array Value := #[.string ⟨#[]⟩, .string kind, cv]
/-- block kb is a key of this kind whose columns are ps -/
def KeyAt (w : World) (N1 kb : Nat) (kind : ByteArray) (ps : List Value) : Prop :=
  ∃ cv, w.heap[kb]? = some (.cells (Kc kind cv) 65 (0, 0)) ∧ w.ownsRow N1 34 1 cv ps.length ps
/-- the columns of key i, as pointers -/
def colsOf (cols : List Nat) (Z : Nat → Int) (q : Nat) : List Value := (List.range q).map fun r => ptrTo (cols.getD (Z r).toNat 0)
theorem colsOf_len (cols : List Nat) (Z : Nat → Int) (q : Nat) : (colsOf cols Z q).length = q := by simp [colsOf]
theorem colsOf_succ (cols : List Nat) (Z : Nat → Int) (q : Nat) : colsOf cols Z (q + 1) = colsOf cols Z q ++ [ptrTo (cols.getD (Z q).toNat 0)] := by simp [colsOf, List.range_succ]

theorem row_tag {w : World} {base : Nat} {e : TypeId} {v : Value} {n : Nat} {xs : List Value} (h : w.ownsRow base e 1 v n xs) {g : Nat} (hv : v.ownBlock = some g) : base ≤ g ∧ ∃ cur, w.heap[g]? = some (.cells cur e (0, 0)) := by
  rcases h.2 with ⟨rfl, _⟩ | ⟨g', cap, cur, rfl, hb, hg, _⟩
  · simp [Value.ownBlock] at hv
  · simp [Value.ownBlock] at hv
    subst hv
    exact ⟨hb, cur, hg⟩

theorem row_kept {w w' : World} {base base' : Nat} {e : TypeId} {v : Value} {n : Nat} {xs : List Value} (h : w.ownsRow base e 1 v n xs) (hb : base' ≤ base) (hk : ∀ (b : Nat) (cs : Array Value), w.heap[b]? = some (.cells cs e (0, 0)) → base ≤ b → w'.heap[b]? = w.heap[b]?) : w'.ownsRow base' e 1 v n xs := by
  refine ⟨h.1, ?_⟩
  rcases h.2 with hn | ⟨g, cap, cur, rfl, hbg, hgg, rest⟩
  · exact .inl hn
  · exact .inr ⟨g, cap, cur, rfl, Nat.le_trans hb hbg, by rw [hk g cur hgg hbg]; exact hgg, rest⟩

theorem keyAt_kept {w w' : World} {N1 N1' kb : Nat} {kind : ByteArray} {ps : List Value} (h : KeyAt w N1 kb kind ps) (hN : N1' ≤ N1) (hk : ∀ (b : Nat) (cs : Array Value) (t : TypeId), w.heap[b]? = some (.cells cs t (0, 0)) → t = 65 ∨ t = 34 → w'.heap[b]? = w.heap[b]?) : KeyAt w' N1' kb kind ps := by
  obtain ⟨cv, h1, h2⟩ := h
  exact ⟨cv, by rw [hk kb _ 65 h1 (.inl rfl)]; exact h1, row_kept h2 hN fun b cs hb _ => hk b cs 34 hb (.inr rfl)⟩

/-- the table behind k rounds of its second loop; w1: the world behind the first loop, of N1 blocks -/
structure Tab2 (N N1 : Nat) (w w1 wr : World) (T : Nat → ByteArray) (Z : Nat → Nat → Int) (L : Nat → Nat) (cols : List Nat) (ov : Value) (k : Nat) (kv : Value) (kbs : List Nat) : Prop where
  hT : wr.heap[N + 1]? = some (.cells (Tc N ov kv nilS) 57 (0, 0))
  kown : wr.ownsRow N1 62 1 kv k (kbs.map ptrTo)
  len : kbs.length = k
  keys : ∀ i, i < k → KeyAt wr N1 (kbs.getD i 0) (T i) (colsOf cols (Z i) (L i))
  old : ∀ b, b < N1 → b ≠ N + 1 → wr.heap[b]? = w1.heap[b]?
  bel : Below N w wr
  sz : N1 ≤ wr.heap.size

theorem tab2_start {N : Nat} {w w1 : World} {S : Nat → ByteArray} {n : Nat} {ov : Value} {cols : List Nat} (h : Tab1 N w w1 S n ov cols) (T : Nat → ByteArray) (Z : Nat → Nat → Int) (L : Nat → Nat) : Tab2 N w1.heap.size w w1 w1 T Z L cols ov 0 nilS [] where
  hT := h.hT
  kown := World.ownsRow_nil _ _ _ _
  len := rfl
  keys := fun i hi => absurd hi (by omega)
  old := fun _ _ _ => rfl
  bel := h.bel
  sz := Nat.le_refl _

/-- the key that the round makes, behind q rounds of the inner loop; kb: its block, the heap's size at the round's head -/
structure Key1 (kb : Nat) (wr wx : World) (kind : ByteArray) (cols : List Nat) (Z : Nat → Int) (q : Nat) (cv : Value) : Prop where
  hK : wx.heap[kb]? = some (.cells (Kc kind cv) 65 (0, 0))
  own : wx.ownsRow (kb + 1) 34 1 cv q (colsOf cols Z q)
  bel : Below kb wr wx
  sz : kb + 1 ≤ wx.heap.size

theorem key1_start (wr : World) (kind : ByteArray) (cols : List Nat) (Z : Nat → Int) : Key1 wr.heap.size wr (wr.alloc (.cells (Kc kind nilS) 65)) kind cols Z 0 nilS where
  hK := heap_alloc_new wr _
  own := World.ownsRow_nil _ _ _ _
  bel := (Below.refl _ _).alloc (Nat.le_refl _) _
  sz := by simp

theorem key1_round {kb : Nat} {wr wx w2 : World} {kind : ByteArray} {cols : List Nat} {Z : Nat → Int} {q g cap : Nat} {cv : Value} {o2 : Obj} (h : Key1 kb wr wx kind cols Z q cv)
    (hg2 : (wx.alloc o2).grownBy w2 cv.ownBlock) (hown2 : w2.ownsRow (kb + 1) 34 1 (.slice (some ⟨g, 0, none⟩) (q + 1) cap) (q + 1) (colsOf cols Z q ++ [ptrTo (cols.getD (Z q).toNat 0)])) :
    Key1 kb wr (w2.setCell ⟨kb, 2, none⟩ (.slice (some ⟨g, 0, none⟩) (q + 1) cap)) kind cols Z (q + 1) (.slice (some ⟨g, 0, none⟩) (q + 1) cap) := by
  have hs2 := hg2.size
  have hsz := h.sz
  have hob : ∀ g, cv.ownBlock = some g → kb + 1 ≤ g := fun g hv => (h.own.lt g hv).1
  have e1 : (w2.setCell ⟨kb, 2, none⟩ (.slice (some ⟨g, 0, none⟩) (q + 1) cap)).heap.size = w2.heap.size := by simp [World.setCell]
  have hb2 : Below kb wr w2 := (h.bel.alloc (by omega) o2).grown hg2 (by simp; omega) (fun k e => by have := hob k e; omega)
  refine ⟨?_, ?_, hb2.setCell (by simp) _, by rw [e1]; simp at hs2; omega⟩
  · have : w2.heap[kb]? = some (.cells (Kc kind cv) 65 (0, 0)) := by
      rw [hg2.block _ (by simp; omega) (fun e => by have := hob _ e.symm; omega), Below.heap_alloc _ _ _ (by omega)]
      exact h.hK
    rw [heap_setCell_at this]
    rfl
  · rw [colsOf_succ]
    exact ownsRow_setCell_below hown2 (a := ⟨kb, 2, none⟩) (by simp) _

theorem tab2_round {N N1 : Nat} {w w1 wr wx w3 : World} {T : Nat → ByteArray} {Z : Nat → Nat → Int} {L : Nat → Nat} {cols : List Nat} {ov : Value} {k : Nat} {kv : Value} {kbs : List Nat} {cv : Value} {o3 : Obj} {g cap : Nat}
    (h : Tab2 N N1 w w1 wr T Z L cols ov k kv kbs) (hN : N + 2 ≤ N1) (hk : Key1 wr.heap.size wr wx (T k) cols (Z k) (L k) cv)
    (hg3 : (wx.alloc o3).grownBy w3 kv.ownBlock) (hown3 : w3.ownsRow N1 62 1 (.slice (some ⟨g, 0, none⟩) (k + 1) cap) (k + 1) (kbs.map ptrTo ++ [ptrTo wr.heap.size])) :
    Tab2 N N1 w w1 (w3.setCell ⟨N + 1, 2, none⟩ (.slice (some ⟨g, 0, none⟩) (k + 1) cap)) T Z L cols ov (k + 1) (.slice (some ⟨g, 0, none⟩) (k + 1) cap) (kbs ++ [wr.heap.size]) := by
  have hs3 := hg3.size
  have hsz := h.sz
  have hksz := hk.sz
  have hob : ∀ g, kv.ownBlock = some g → N1 ≤ g ∧ g < wr.heap.size := fun g hv => h.kown.lt g hv
  have e1 : (w3.setCell ⟨N + 1, 2, none⟩ (.slice (some ⟨g, 0, none⟩) (k + 1) cap)).heap.size = w3.heap.size := by simp [World.setCell]
  -- a block of wx that is neither kv's row nor the table is as it was
  have far : ∀ b, b < wx.heap.size → some b ≠ kv.ownBlock → b ≠ N + 1 → (w3.setCell ⟨N + 1, 2, none⟩ (.slice (some ⟨g, 0, none⟩) (k + 1) cap)).heap[b]? = wx.heap[b]? := by
    intro b hb h1 h2
    rw [Below.heap_setCell _ _ _ _ h2, hg3.block b (by simp; omega) h1, Below.heap_alloc _ _ _ hb]
  have hTx : wx.heap[N + 1]? = some (.cells (Tc N ov kv nilS) 57 (0, 0)) := by rw [hk.bel.block _ (by omega)]; exact h.hT
  have tagx : ∀ g, kv.ownBlock = some g → ∃ cur, wx.heap[g]? = some (.cells cur 62 (0, 0)) := fun g hv => by
    obtain ⟨_, cur, hc⟩ := row_tag h.kown hv
    exact ⟨cur, by rw [hk.bel.block _ (hob g hv).2]; exact hc⟩
  have keep : ∀ (b : Nat) (cs : Array Value) (t : TypeId), wx.heap[b]? = some (.cells cs t (0, 0)) → t = 65 ∨ t = 34 → (w3.setCell ⟨N + 1, 2, none⟩ (.slice (some ⟨g, 0, none⟩) (k + 1) cap)).heap[b]? = wx.heap[b]? := by
    intro b cs t hb ht
    refine far b (lt_of_block hb) (fun e => ?_) (fun e => ?_)
    · obtain ⟨cur, hc⟩ := tagx b e.symm
      rw [hb] at hc
      rcases ht with rfl | rfl <;> simp at hc
    · subst e
      rw [hTx] at hb
      rcases ht with rfl | rfl <;> simp at hb
  have hb3 : Below N w w3 := by
    have hbx : Below N w wx := h.bel.trans (hk.bel.mono (by omega))
    exact (hbx.alloc (by omega) o3).grown hg3 (by simp; omega) (fun k e => by have := (hob k e).1; omega)
  refine ⟨?_, ?_, by simp [h.len], ?_, ?_, hb3.setCell (by simp) _, by rw [e1]; simp at hs3; omega⟩
  · have : w3.heap[N + 1]? = some (.cells (Tc N ov kv nilS) 57 (0, 0)) := by
      rw [hg3.block _ (by simp; omega) (fun e => by have := (hob _ e.symm).1; omega), Below.heap_alloc _ _ _ (by omega)]
      exact hTx
    rw [heap_setCell_at this]
    rfl
  · have := ownsRow_setCell_below hown3 (a := ⟨N + 1, 2, none⟩) (by simp; omega) (.slice (some ⟨g, 0, none⟩) (k + 1) cap)
    simpa using this
  · intro i hi
    by_cases e : i = k
    · subst e
      have hg : (kbs ++ [wr.heap.size]).getD i 0 = wr.heap.size := by simp [← h.len]
      rw [hg]
      have hK : KeyAt wx N1 wr.heap.size (T i) (colsOf cols (Z i) (L i)) := ⟨cv, hk.hK, by rw [colsOf_len]; exact row_kept hk.own (by omega) fun _ _ _ _ => rfl⟩
      exact keyAt_kept hK (Nat.le_refl _) keep
    · have hg : (kbs ++ [wr.heap.size]).getD i 0 = kbs.getD i 0 := by
        simp only [List.getD_eq_getElem?_getD]
        rw [List.getElem?_append_left (by rw [h.len]; omega)]
      rw [hg]
      have hK : KeyAt wx N1 (kbs.getD i 0) (T i) (colsOf cols (Z i) (L i)) := keyAt_kept (h.keys i (by omega)) (Nat.le_refl _) fun b cs t hb _ => hk.bel.block b (lt_of_block hb)
      exact keyAt_kept hK (Nat.le_refl _) keep
  · intro b hb hne
    rw [far b (by omega) (fun e => by have := (hob _ e.symm).1; omega) hne, hk.bel.block b (by omega)]
    exact h.old b hb hne

/-- what the inner round reads: the table's order, and in it the column at z -/
theorem inner_facts {N : Nat} {w w1 w2 wx : World} {S T : Nat → ByteArray} {Z : Nat → Nat → Int} {L : Nat → Nat} {cols : List Nat} {ov : Value} {n k : Nat} {kv : Value} {kbs : List Nat} {kind : ByteArray} {Zk : Nat → Int} {q : Nat} {cv : Value}
    (h1 : Tab1 N w w1 S n ov cols) (h2 : Tab2 N w1.heap.size w w1 w2 T Z L cols ov k kv kbs) (hk : Key1 w2.heap.size w2 wx kind cols Zk q cv) (z : Nat) (hz : z < n) :
    ∃ go capo, wx.cell? ⟨N + 1, 1, none⟩ = some (.slice (some ⟨go, 0, none⟩) n capo) ∧ wx.cell? ⟨go, z, none⟩ = some (ptrTo (cols.getD z 0)) ∧ go < w2.heap.size := by
  have s1 := h2.sz
  have s2 := h1.sz
  obtain ⟨go, capo, rfl, hge, hlt⟩ := h1.own.form (by omega)
  refine ⟨go, capo, ?_, ?_, by omega⟩
  · rw [hk.bel.cell (p := ⟨N + 1, 1, none⟩) (by simp; omega), cell_of_row _ _ _ _ _ _ h2.hT]
    rfl
  · rw [hk.bel.cell (p := ⟨go, z, none⟩) (by simp; omega), World.cell?_of_block (w := w1) (h2.old go hlt (by omega))]
    have := h1.own.cells (g := go) rfl z (ptrTo (cols.getD z 0)) (by
      have hlz : z < cols.length := by rw [h1.len]; exact hz
      simp [List.getElem?_map, List.getElem?_eq_getElem hlz])
    have hadd : (⟨go, 0, none⟩ : Addr).add z = ⟨go, z, none⟩ := by unfold Addr.add; split <;> simp_all
    rw [hadd] at this
    exact this

theorem grown_undrew {w w' : World} {row : Option Nat} (h : w.drew.grownBy w' row) : w.grownBy w' row := ⟨h.os, h.tape, h.output, h.size, h.block⟩

theorem key1_round_d {kb cz : Nat} {wr wx w2 : World} {kind : ByteArray} {cols : List Nat} {Z : Nat → Int} {q g cap : Nat} {cv : Value} {o2 : Obj} (hE : wr.heap.size = kb) (h : Key1 wr.heap.size wr wx kind cols Z q cv)
    (hg2 : (wx.alloc o2).drew.grownBy w2 cv.ownBlock) (hz : cols.getD (Z q).toNat 0 = cz) (hown2 : w2.ownsRow (kb + 1) 34 1 (.slice (some ⟨g, 0, none⟩) (q + 1) cap) (q + 1) (colsOf cols Z q ++ [ptrTo cz])) :
    Key1 wr.heap.size wr (w2.setCell ⟨kb, 2, none⟩ (.slice (some ⟨g, 0, none⟩) (q + 1) cap)) kind cols Z (q + 1) (.slice (some ⟨g, 0, none⟩) (q + 1) cap) := by
  subst hE
  subst hz
  exact key1_round h (grown_undrew hg2) hown2

theorem tab2_mid {N N1 : Nat} {w w1 wr wx : World} {T : Nat → ByteArray} {Z : Nat → Nat → Int} {L : Nat → Nat} {cols : List Nat} {ov : Value} {k : Nat} {kv : Value} {kbs : List Nat} {cv : Value} {kind : ByteArray} {Zk : Nat → Int} {q : Nat}
    (h : Tab2 N N1 w w1 wr T Z L cols ov k kv kbs) (hN : N + 2 ≤ N1) (hk : Key1 wr.heap.size wr wx kind cols Zk q cv) :
    wx.heap[N + 1]? = some (.cells (Tc N ov kv nilS) 57 (0, 0)) ∧ wx.ownsRow N1 62 1 kv k (kbs.map ptrTo) ∧ N1 ≤ wx.heap.size := by
  have hsz := h.sz
  have hksz := hk.sz
  refine ⟨by rw [hk.bel.block _ (by omega)]; exact h.hT, row_kept h.kown (Nat.le_refl _) fun b cs hb _ => hk.bel.block b (lt_of_block hb), by omega⟩

theorem tab2_mid2 {N N1 : Nat} {w w1 wr wx w3 : World} {T : Nat → ByteArray} {Z : Nat → Nat → Int} {L : Nat → Nat} {cols : List Nat} {ov : Value} {k : Nat} {kv : Value} {kbs : List Nat} {cv : Value} {kind : ByteArray} {Zk : Nat → Int} {q : Nat} {o3 : Obj}
    (h : Tab2 N N1 w w1 wr T Z L cols ov k kv kbs) (hN : N + 2 ≤ N1) (hk : Key1 wr.heap.size wr wx kind cols Zk q cv) (hg3 : (wx.alloc o3).grownBy w3 kv.ownBlock) :
    w3.heap[N + 1]? = some (.cells (Tc N ov kv nilS) 57 (0, 0)) := by
  obtain ⟨m1, m2, m3⟩ := tab2_mid h hN hk
  rw [hg3.block _ (by simp; omega) (fun e => by have := (m2.lt _ e.symm).1; omega), Below.heap_alloc _ _ _ (by omega)]
  exact m1
end Go.Proofs.Qxb6613626a
