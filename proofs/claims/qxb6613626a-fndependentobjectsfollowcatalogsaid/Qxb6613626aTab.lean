import Derived.Test.Qxb6613626aLeaf
import Derived.Maps.Own
import Derived.Maps.Views
import Derived.Deep.AppendLies
namespace Go.Proofs.Qxb6613626a
open Go.RowKit Go.Maps

theorem law9 : Keyed Try.prog 9 := string_keyed Try.underlying9
/-- how a pointer to a whole block reads, for the proof's own book-keeping -/
def ptrElem (v : Value) : Option (DataW Unit × List MemPlace) :=
  match v with
  | .pointer none => some (.nil, [])
  | .pointer (some a) => if a.off = 0 ∧ a.spot = none then some (.lit (.int .u64 a.block), []) else none
  | _ => none
theorem ptrElem_mk (b : Nat) : ptrElem (.pointer (some ⟨b, 0, none⟩)) = some (.lit (.int .u64 b), []) := by simp [ptrElem]

def ptrTo (b : Nat) : Value := .pointer (some ⟨b, 0, none⟩)
def nilS : Value := .slice none 0 0
/-- the table's cells: the map's block, the columns' order, the keys, the partitioning -/
def Tc (M : Nat) (ov kv pv : Value) : Array Value := #[.map (some M), ov, kv, .slice none 0 0, .slice none 0 0, .slice none 0 0, pv, .string ⟨#[]⟩, .string ⟨#[]⟩]

/-- what the map holds: the first k names lead to their columns; no other name leads anywhere -/
def MapIs (D : DataW Unit) (S : Nat → ByteArray) (cols : List Nat) (k : Nat) : Prop :=
  IsMap D ∧ ∀ s : List UInt8, (∀ i, i < k → (S i).data.toList = s → (∀ j, i < j → j < k → (S j).data.toList ≠ s) → D.atKey (.string s) .nil = .lit (.int .u64 (cols.getD i 0))) ∧ ((∀ i, i < k → (S i).data.toList ≠ s) → D.atKey (.string s) .nil = .nil)

/-- the table behind k rounds of its first loop; N: the heap's size when the call began -/
structure Tab1 (N : Nat) (w wr : World) (S : Nat → ByteArray) (k : Nat) (ov : Value) (cols : List Nat) : Prop where
  hT : wr.heap[N + 1]? = some (.cells (Tc N ov nilS nilS) 57 (0, 0))
  own : wr.ownsRow (N + 2) 34 1 ov k (cols.map ptrTo)
  len : cols.length = k
  map : ∃ D : DataW Unit, wr.ownsMap Try.prog 9 ptrElem N k D ∧ MapIs D S cols k
  bel : Below N w wr
  sz : N + 2 ≤ wr.heap.size
  inc : cols.Pairwise (· < ·)
  lt : ∀ c ∈ cols, N + 2 ≤ c ∧ c < wr.heap.size
  blk : ∀ c ∈ cols, ∃ cs, wr.heap[c]? = some (.cells cs 61 (0, 0))

theorem heap_setCell_at {w : World} {b o : Nat} {cs : Array Value} {t : TypeId} {fr : Nat × Nat} (h : w.heap[b]? = some (.cells cs t fr)) (u : Value) : (w.setCell ⟨b, o, none⟩ u).heap[b]? = some (.cells (cs.setIfInBounds o u) t fr) := by
  have hlt := lt_of_block h
  have h' : w.heap[b] = .cells cs t fr := by simpa [Array.getElem?_eq_getElem hlt] using h
  show (w.heap.modify b _)[b]? = _
  rw [Array.getElem?_eq_getElem (by simpa using hlt), Array.getElem_modify_self, h']
  rfl
theorem free_of_block {w : World} {b o : Nat} {cs : Array Value} {t : TypeId} (h : w.heap[b]? = some (.cells cs t (0, 0))) : w.frozen? ⟨b, o, none⟩ = false := by simp [World.frozen?, h]

theorem tab1_start (w : World) (S : Nat → ByteArray) : Tab1 w.heap.size w ((w.alloc (.map #[] 0)).alloc (.cells (Tc w.heap.size nilS nilS nilS) 57)) S 0 nilS [] where
  hT := by
    have := heap_alloc_new (w.alloc (.map #[] 0)) (.cells (Tc w.heap.size nilS nilS nilS) 57)
    simpa using this
  own := World.ownsRow_nil _ _ _ _
  len := rfl
  map := ⟨_, (World.ownsMap_made w Try.prog 9 ptrElem).alloc _, isMap_empty, fun s => ⟨fun i hi => absurd hi (by omega), fun _ => rfl⟩⟩
  bel := ((Below.refl _ _).alloc (Nat.le_refl _) _).alloc (by simp) _
  sz := by simp
  inc := List.Pairwise.nil
  lt := by simp
  blk := by simp

theorem mapIs_step {D : DataW Unit} {S : Nat → ByteArray} {cols : List Nat} {k c : Nat} (h : MapIs D S cols k) (hl : cols.length = k) : MapIs (D.put (.string (S k).data.toList) (.lit (.int .u64 c))) S (cols ++ [c]) (k + 1) := by
  refine ⟨h.1.put _ _, fun s => ⟨fun i hi hs hlast => ?_, fun hno => ?_⟩⟩
  · by_cases e : i = k
    · subst e
      subst hs
      rw [atKey_put_same (k := .string (S i).data.toList) h.1 (by trivial)]
      simp [← hl]
    · have hne : (S k).data.toList ≠ s := hlast k (by omega) (by omega)
      rw [atKey_put_other (by simpa using fun e => hne e.symm)]
      rw [((h.2 s).1 i (by omega) hs (fun j h1 h2 => hlast j h1 (by omega)))]
      simp only [List.getD_eq_getElem?_getD]
      rw [List.getElem?_append_left (by omega)]
  · have hne : (S k).data.toList ≠ s := hno k (by omega)
    rw [atKey_put_other (by simpa using fun e => hne e.symm)]
    exact (h.2 s).2 fun i hi => hno i (by omega)

/-- what the round's second half needs of the world behind the map's store -/
theorem tab1_mid {N : Nat} {w wr w1 : World} {S : Nat → ByteArray} {k : Nat} {ov : Value} {cols : List Nat} {o : Obj} (h : Tab1 N w wr S k ov cols) (hg : (wr.alloc o).grownBy w1 (some N)) :
    w1.heap[N + 1]? = some (.cells (Tc N ov nilS nilS) 57 (0, 0)) ∧ w1.ownsRow (N + 2) 34 1 ov k (cols.map ptrTo) ∧ wr.heap.size + 1 ≤ w1.heap.size ∧ Below N w w1 := by
  have hs := hg.size
  have := h.sz
  refine ⟨?_, (h.own.alloc o).kept hg ?_, by simpa using hs, ?_⟩
  · rw [hg.block _ (by simp; omega) (by simp)]
    rw [Below.heap_alloc _ _ _ (by omega)]
    exact h.hT
  · cases hv : ov.ownBlock with
    | none => left; rfl
    | some g => right; have := (h.own.lt g hv).1; simp; omega
  · exact (h.bel.alloc (by omega) o).grown hg (by simp; omega) (fun k e => by cases e; exact Nat.le_refl _)

theorem tab1_mid2 {N : Nat} {w wr w1 w2 : World} {S : Nat → ByteArray} {k : Nat} {ov : Value} {cols : List Nat} {o o2 : Obj} (h : Tab1 N w wr S k ov cols) (hg : (wr.alloc o).grownBy w1 (some N)) (hg2 : (w1.alloc o2).grownBy w2 ov.ownBlock) :
    w2.heap[N + 1]? = some (.cells (Tc N ov nilS nilS) 57 (0, 0)) := by
  obtain ⟨m1, m2, m3, m4⟩ := tab1_mid h hg
  have hsz := h.sz
  rw [hg2.block _ (by simp; omega) (fun e => by have := (h.own.lt _ e.symm).1; omega), Below.heap_alloc _ _ _ (by omega)]
  exact m1

theorem tab1_round {N : Nat} {w wr w1 w2 : World} {S : Nat → ByteArray} {k : Nat} {ov : Value} {cols : List Nat} {cs0 : Array Value} {o2 : Obj} {g cap : Nat} {D : DataW Unit} (h : Tab1 N w wr S k ov cols)
    (hD : MapIs D S cols k)
    (hg : (wr.alloc (.cells cs0 61)).grownBy w1 (some N)) (hm : w1.ownsMap Try.prog 9 ptrElem N (k + 1) (D.put (.string (S k).data.toList) (.lit (.int .u64 wr.heap.size))))
    (hg2 : (w1.alloc o2).grownBy w2 ov.ownBlock) (hown2 : w2.ownsRow (N + 2) 34 1 (.slice (some ⟨g, 0, none⟩) (k + 1) cap) (k + 1) (cols.map ptrTo ++ [ptrTo wr.heap.size])) :
    Tab1 N w (w2.setCell ⟨N + 1, 1, none⟩ (.slice (some ⟨g, 0, none⟩) (k + 1) cap)) S (k + 1) (.slice (some ⟨g, 0, none⟩) (k + 1) cap) (cols ++ [wr.heap.size]) := by
  obtain ⟨m1, m2, m3, m4⟩ := tab1_mid h hg
  have hs2 := hg2.size
  have hsz := h.sz
  have hob : ∀ g, ov.ownBlock = some g → N + 2 ≤ g := fun g hv => (h.own.lt g hv).1
  have hsz2 : wr.heap.size + 2 ≤ w2.heap.size := by simp at hs2; omega
  have e1 : (w2.setCell ⟨N + 1, 1, none⟩ (.slice (some ⟨g, 0, none⟩) (k + 1) cap)).heap.size = w2.heap.size := by simp [World.setCell]
  have hb2 : Below N w w2 := (m4.alloc (by omega) o2).grown hg2 (by simp; omega) (fun k e => by have := hob k e; omega)
  refine ⟨?_, ?_, by simp [h.len], ?_, hb2.setCell (by simp) _, by rw [e1]; omega, ?_, ?_, ?_⟩
  · have : w2.heap[N + 1]? = some (.cells (Tc N ov nilS nilS) 57 (0, 0)) := by
      rw [hg2.block _ (by simp; omega) (fun e => by have := hob _ e.symm; omega), Below.heap_alloc _ _ _ (by omega)]
      exact m1
    rw [heap_setCell_at this]
    rfl
  · have := ownsRow_setCell_below hown2 (a := ⟨N + 1, 1, none⟩) (by simp) (.slice (some ⟨g, 0, none⟩) (k + 1) cap)
    simpa using this
  · refine ⟨_, ?_, mapIs_step hD h.len⟩
    have h1 := (hm.alloc o2).kept hg2 (fun e => by have := hob _ e.symm; omega)
    obtain ⟨es, clock, hb, F, hs, hDD⟩ := h1
    exact ⟨es, clock, by rw [Below.heap_setCell _ _ _ _ (by simp)]; exact hb, F, hs, hDD⟩
  · rw [List.pairwise_append]
    exact ⟨h.inc, by simp, fun a ha b hb => by simp at hb; subst hb; exact (h.lt a ha).2⟩
  · intro c hc
    rw [e1]
    rw [List.mem_append] at hc
    rcases hc with hc | hc
    · have := h.lt c hc; omega
    · simp at hc; subst hc; omega
  · intro c hc
    have hc1 : (wr.alloc (.cells cs0 61)).heap.size = wr.heap.size + 1 := by simp
    have step : ∀ cs, (wr.alloc (.cells cs0 61)).heap[c]? = some (.cells cs 61 (0, 0)) → N + 2 ≤ c → ∃ cs, (w2.setCell ⟨N + 1, 1, none⟩ (.slice (some ⟨g, 0, none⟩) (k + 1) cap)).heap[c]? = some (.cells cs 61 (0, 0)) := by
      intro cs hcs hge
      have hlt := lt_of_block hcs
      have hx : w1.heap[c]? = some (.cells cs 61 (0, 0)) := by rw [hg.block c hlt (by simp; omega)]; exact hcs
      refine ⟨cs, ?_⟩
      rw [Below.heap_setCell _ _ _ _ (by simp; omega), hg2.block c (by have := lt_of_block hx; simp; omega) (fun e => ?_), Below.heap_alloc _ _ _ (lt_of_block hx)]
      · exact hx
      · rcases m2.2 with ⟨rfl, _⟩ | ⟨g', cap', cur, rfl, hb, hgg, _⟩
        · simp [Value.ownBlock] at e
        · simp [Value.ownBlock] at e
          subst e
          rw [hx] at hgg
          simp at hgg
    rw [List.mem_append] at hc
    rcases hc with hc | hc
    · obtain ⟨cs, hcs⟩ := h.blk c hc
      exact step cs (by rw [Below.heap_alloc _ _ _ (h.lt c hc).2]; exact hcs) (h.lt c hc).1
    · simp at hc
      subst hc
      exact step cs0 (heap_alloc_new wr _) (by omega)
end Go.Proofs.Qxb6613626a
