import Derived.Test.Qxb6613626aLook
namespace Go.Proofs.Qxb6613626a
open Go.RowKit Go.Maps

/-- behind partition: the world in which the columns have been looked up, and the one store into the table -/
def PartPost (w : World) (tb : Nat) (D : DataW Unit) (Q : Nat → ByteArray) (n : Nat) (e : Ending) (w' : World) : Prop :=
  e = .returned (.tuple #[]) ∧ ∃ a c w1, w' = w1.setCell ⟨tb, 6, none⟩ (.slice a (lkB D Q n).length c) ∧ w1.ownsRow w.heap.size 34 1 (.slice a (lkB D Q n).length c) (lkB D Q n).length ((lkB D Q n).map ptrTo) ∧ Below w.heap.size w w1

theorem own_form {w : World} {base : Nat} {v : Value} {n : Nat} {xs : List Value} (h : w.ownsRow base 34 1 v n xs) : ∃ a c, v = .slice a n c := by
  rcases h.2 with ⟨rfl, rfl⟩ | ⟨g, cap, cur, rfl, _⟩
  · exact ⟨_, _, rfl⟩
  · exact ⟨_, _, rfl⟩

set_option maxRecDepth 100000 in
set_option maxHeartbeats 800000 in
theorem partition_any (tb M N : Nat) (ov kv pv : Value) (D : DataW Unit) (Q : Nat → ByteArray) (na : Option Addr) (nc n : Nat) (w : World) (hn : n ≤ 1048576) (hQ : ∀ i, i < n → (Q i).size ≤ maxLen)
    (hT : w.heap[tb]? = some (.cells (Tc M ov kv pv) 57 (0, 0))) (hm : w.ownsMap Try.prog 9 ptrElem M N D) (hv : w.ownsRow 0 59 2 (.slice na n nc) n (nameCells Q n)) :
    Calls Try.prog 28 #[.pointer (some ⟨tb, 0, none⟩), .agg #[.slice na n nc, .bool false, .string ⟨#[]⟩]] w fun e w' => PartPost w tb D Q n e w' := by
  have hTl := lt_of_block hT
  have HT := hide hT
  have HM := hide hm
  have HV := hide hv
  have HQ := hide hQ
  clear hT hm hv hQ
  have hbx : ∀ o, (w.alloc o).cell? ⟨tb, 0, none⟩ = some (.map (some M)) := fun o => by
    rw [cell_of_row (w.alloc o) _ _ _ _ _ ((Below.heap_alloc _ _ _ hTl).trans (unhide HT))]; rfl
  have HBX := hide hbx
  clear hbx
  go_enter Try.func28, Try.ntmps28
  go_wp2_with fail
  refine (lookup_any tb M N D Q (.slice na n nc) n _ hn (unhide HQ) (unhide HBX _) ((unhide HM).alloc _) ((unhide HV).alloc _)).mono ?_
  rintro e w1 ⟨v, rfl, ho, hb⟩
  obtain ⟨va, vc, rfl⟩ := own_form ho
  have HO := hide ho
  have HB := hide hb
  have HBw : Hid (Below w.heap.size w w1) := ((Below.refl _ _).alloc (Nat.le_refl _) _).trans (hb.mono (by simp))
  have hsz : w.heap.size + 1 ≤ w1.heap.size := by have := hb.size; simpa using this
  have hT1 : Hid (w1.heap[tb]? = some (.cells (Tc M ov kv pv) 57 (0, 0))) := ((unhide HBw).block tb hTl).trans (unhide HT)
  have hB1 : w1.heap[w.heap.size]? = some (.cells #[.slice na n nc, .bool false, .string ⟨#[]⟩] 77 (0, 0)) := (hb.block _ (by simp)).trans (heap_alloc_new w _)
  have HB1 := hide hB1
  have x0 : w1.cell? ⟨tb, 6, none⟩ = some pv := by rw [cell_of_row _ _ _ _ _ _ (unhide hT1)]; rfl
  have x1 : w1.frozen? ⟨tb, 6, none⟩ = false := free_of_block (unhide hT1)
  have x2 : w1.cell? ⟨w.heap.size, 1, none⟩ = some (.bool false) := by rw [cell_of_row _ _ _ _ _ _ hB1]; rfl
  have x3 : w1.cell? ⟨w.heap.size, 2, none⟩ = some (.string ⟨#[]⟩) := by rw [cell_of_row _ _ _ _ _ _ hB1]; rfl
  have x4 : tb ≠ w.heap.size := by omega
  have x5 : w.heap.size ≠ tb := by omega
  have y2 : ∀ u, (w1.setCell ⟨tb, 6, none⟩ u).cell? ⟨w.heap.size, 1, none⟩ = some (.bool false) := fun u => by
    rw [World.cell?_of_block (w := w1) (Below.heap_setCell _ _ _ _ x5)]; exact x2
  have y3 : ∀ u, (w1.setCell ⟨tb, 6, none⟩ u).cell? ⟨w.heap.size, 2, none⟩ = some (.string ⟨#[]⟩) := fun u => by
    rw [World.cell?_of_block (w := w1) (Below.heap_setCell _ _ _ _ x5)]; exact x3
  clear ho hb hB1 x4 x2 x3
  go_wp2_with fail
  go_end0
  exact ⟨rfl, va, vc, w1, rfl, row_kept (unhide HO) (by simp) (fun _ _ _ _ => rfl), unhide HBw⟩

/-- behind ZZpartition -/
def ZPartPost (w : World) (tb : Nat) (D : DataW Unit) (Q : Nat → ByteArray) (n : Nat) (e : Ending) (w' : World) : Prop :=
  e = .returned (.tuple #[]) ∧ ∃ a c w1, w' = w1.setCell ⟨tb, 6, none⟩ (.slice a (lkB D Q n).length c) ∧ w1.ownsRow w.heap.size 34 1 (.slice a (lkB D Q n).length c) (lkB D Q n).length ((lkB D Q n).map ptrTo) ∧ Below w.heap.size w w1

theorem own_form2 {w : World} {base : Nat} {v : Value} {n : Nat} {xs : List Value} (h : w.ownsRow base 59 2 v n xs) : ∃ a c, v = .slice a n c := by
  rcases h.2 with ⟨rfl, rfl⟩ | ⟨g, cap, cur, rfl, _⟩
  · exact ⟨_, _, rfl⟩
  · exact ⟨_, _, rfl⟩
theorem row_base {w : World} {base base' : Nat} {e : TypeId} {size : Nat} {v : Value} {n : Nat} {xs : List Value} (h : w.ownsRow base e size v n xs) (hb : base' ≤ base) : w.ownsRow base' e size v n xs := by
  refine ⟨h.1, ?_⟩
  rcases h.2 with hn | ⟨g, cap, cur, rfl, hbg, rest⟩
  · exact .inl hn
  · exact .inr ⟨g, cap, cur, rfl, Nat.le_trans hb hbg, rest⟩

set_option maxRecDepth 100000 in
set_option maxHeartbeats 800000 in
theorem zzPartition_any (tb M N : Nat) (ov kv pv : Value) (D : DataW Unit) (Q : Nat → ByteArray) (a : Option Addr) (c n b off : Nat) (w : World) (hn : n ≤ 1048576) (hQ : ∀ i, i < n → (Q i).size ≤ maxLen)
    (ha : 0 < n → a = some ⟨b, off, none⟩ ∧ b < w.heap.size) (hc : ∀ i, i < n → w.cell? ⟨b, off + i, none⟩ = some (.string (Q i)))
    (hT : w.heap[tb]? = some (.cells (Tc M ov kv pv) 57 (0, 0))) (hm : w.ownsMap Try.prog 9 ptrElem M N D) :
    Calls Try.prog 13 #[.pointer (some ⟨tb, 0, none⟩), .slice a n c, .bool false, .string ⟨#[]⟩] w fun e w' => ZPartPost w tb D Q n e w' := by
  have hTl := lt_of_block hT
  go_enter Try.func13, Try.ntmps13
  go_wp2_with fail
  refine (columnNames_any Q a n c b off w hn ha hc).mono ?_
  rintro e w1 ⟨v, rfl, ho, hb⟩
  obtain ⟨va, vc, rfl⟩ := own_form2 ho
  have HB := hide hb
  have HO : Hid (w1.ownsRow 0 59 2 (.slice va n vc) n (nameCells Q n)) := row_base ho (Nat.zero_le _)
  have HM : Hid (w1.ownsMap Try.prog 9 ptrElem M N D) := hm.kept (row := none) ⟨hb.os, hb.tape, hb.output, hb.size, fun k hk _ => hb.block k hk⟩ (by simp)
  have HT : Hid (w1.heap[tb]? = some (.cells (Tc M ov kv pv) 57 (0, 0))) := (hb.block tb hTl).trans hT
  have HQ := hide hQ
  clear ho hb hm hT hQ ha hc
  go_wp2_with fail
  refine (partition_any tb M N ov kv pv D Q va vc n w1 hn (unhide HQ) (unhide HT) (unhide HM) (unhide HO)).mono ?_
  rintro e w2 ⟨rfl, pa, pc, w3, rfl, ho3, hb3⟩
  have HO3 := hide ho3
  have HB3 := hide hb3
  clear ho3 hb3
  go_wp2_with fail
  go_end0
  exact ⟨rfl, pa, pc, w3, rfl, row_base (unhide HO3) (unhide HB).size, (unhide HB).trans ((unhide HB3).mono (unhide HB).size)⟩

set_option maxHeartbeats 400000 in
theorem partitioning_any (tb : Nat) (oa : Option Addr) (on oc : Nat) (w : World) (h : w.cell? ⟨tb, 6, none⟩ = some (.slice oa on oc)) :
    Calls Try.prog 15 #[.pointer (some ⟨tb, 0, none⟩)] w fun e w' => e = .returned (.slice oa on oc) ∧ w' = w := by
  go_enter Try.func15, Try.ntmps15
  go_wp2
  go_ret
  exact ⟨rfl, rfl⟩

/-- the table behind the store of its partitioning -/
theorem table_part {w w1 : World} {tb M : Nat} {ov kv pv v : Value} {S T : Nat → ByteArray} {Z : Nat → Nat → Int} {L : Nat → Nat} {cols kbs : List Nat} {n m : Nat} (h : Table w tb M ov kv pv S T Z L cols kbs n m) (hb : Below w.heap.size w w1) :
    Table (w1.setCell ⟨tb, 6, none⟩ v) tb M ov kv v S T Z L cols kbs n m := by
  have h1 := h.kept hb
  have far : ∀ b, b ≠ tb → (w1.setCell ⟨tb, 6, none⟩ v).heap[b]? = w1.heap[b]? := fun b hne => Below.heap_setCell _ _ _ _ hne
  have tag : ∀ (b : Nat) (cs : Array Value) (t : TypeId), w1.heap[b]? = some (.cells cs t (0, 0)) → t ≠ 57 → (w1.setCell ⟨tb, 6, none⟩ v).heap[b]? = w1.heap[b]? := fun b cs t hx ht => far b fun e => by
    subst e
    rw [h1.hT] at hx
    simp at hx
    exact ht hx.2.symm
  refine ⟨?_, ?_, ?_, ?_, h.clen, h.klen, ?_, h.inc, ?_⟩
  · rw [heap_setCell_at h1.hT]; rfl
  · exact row_kept h1.oown (Nat.le_refl _) fun b cs hx _ => tag b cs 34 hx (by decide)
  · exact row_kept h1.kown (Nat.le_refl _) fun b cs hx _ => tag b cs 62 hx (by decide)
  · exact fun i hi => keyAt_kept (h1.keys i hi) (Nat.le_refl _) fun b cs t hx ht => tag b cs t hx (by rcases ht with rfl | rfl <;> decide)
  · obtain ⟨D, hm, hD⟩ := h1.map
    obtain ⟨es, clock, hbk, F, hs, hDD⟩ := hm
    exact ⟨D, ⟨es, clock, by rw [far M (fun e => by subst e; rw [h1.hT] at hbk; simp at hbk)]; exact hbk, F, hs, hDD⟩, hD⟩
  · intro c hc
    obtain ⟨cs, t, hx⟩ := h1.blk c hc
    by_cases e : c = tb
    · subst e
      exact ⟨_, _, heap_setCell_at h1.hT _⟩
    · exact ⟨cs, t, (far c e).trans hx⟩
end Go.Proofs.Qxb6613626a
