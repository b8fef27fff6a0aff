import Derived.Test.Qxb6613626aPk3
import Derived.Test.Qxb6613626aBytes
import Derived.Laws.CopyOwn
import Derived.Deep.DeepCutAuto
import Derived.Deep.OwnRows
namespace Go.Proofs.Qxb6613626a
open Go.RowKit Go.Maps

/-- the value v is a slice of the n strings S, whole in wx; below w0's blocks nothing has turned -/
def StrAt (w0 wx : World) (v : Value) (n : Nat) (S : Nat → ByteArray) : Prop :=
  Below w0.heap.size w0 wx ∧ ∃ a c b o, v = .slice a n c ∧ (0 < n → a = some ⟨b, o, none⟩ ∧ b < wx.heap.size) ∧ ∀ i, i < n → wx.cell? ⟨b, o + i, none⟩ = some (.string (S i))

theorem StrAt.kept {w0 wx wy : World} {v : Value} {n : Nat} {S : Nat → ByteArray} (h : StrAt w0 wx v n S) (hb : Below wx.heap.size wx wy) : StrAt w0 wy v n S := by
  obtain ⟨h1, a, c, b, o, rfl, h2, h3⟩ := h
  refine ⟨h1.trans (hb.mono h1.size), a, c, b, o, rfl, fun h => ⟨(h2 h).1, Nat.lt_of_lt_of_le (h2 h).2 hb.size⟩, fun i hi => ?_⟩
  rw [hb.cell (p := ⟨b, o + i, none⟩) (h2 (by omega)).2]
  exact h3 i hi

def strCells (S : Nat → ByteArray) (n : Nat) : List Value := (List.range n).map fun i => .string (S i)
theorem strCells_len (S : Nat → ByteArray) (n : Nat) : (strCells S n).length = n := by simp [strCells]
theorem strCells_one (S : Nat → ByteArray) (n : Nat) : ∀ v ∈ strCells S n, v.oneCell' = true := by
  intro v hv
  simp only [strCells, List.mem_map] at hv
  obtain ⟨i, _, rfl⟩ := hv
  rfl
theorem strCells_get {S : Nat → ByteArray} {n i : Nat} (h : i < n) : (strCells S n)[i]? = some (.string (S i)) := by simp [strCells, h]

/-- behind the copy -/
theorem strAt_copied {w0 wx : World} {g n : Nat} {S : Nat → ByteArray} {cur : List Value} (hl : cur.length = n) (hg : wx.heap[g]? = some (.cells (splice cur 0 (strCells S n)).toArray 9 (0, 0))) (hb : Below w0.heap.size w0 wx) : StrAt w0 wx (.slice (some ⟨g, 0, none⟩) n n) n S := by
  have e : splice cur 0 (strCells S n) = strCells S n := by
    simp only [splice, List.take_zero, List.nil_append, strCells_len, Nat.zero_add]
    rw [List.drop_eq_nil_of_le (by omega), List.append_nil]
  rw [e] at hg
  refine ⟨hb, _, _, g, 0, rfl, fun _ => ⟨rfl, lt_of_block hg⟩, fun i hi => ?_⟩
  rw [cell_of_row _ _ _ _ _ _ hg]
  simpa using strCells_get hi
theorem Try.info9 : (Try.prog.info? 9).map (fun i => (i.zero, i.size, i.bytes)) = some (some (.string ⟨#[]⟩), 1, 16) := by kernel_rfl
theorem Try.size9 : (Try.prog.info? 9).map (·.size) = some 1 := by kernel_rfl

theorem made_blk (w : World) (n : Nat) : (w.alloc (.cells (madeCells #[.string ⟨#[]⟩] n) 9)).heap[w.heap.size]? = some (.cells (madeCells #[.string ⟨#[]⟩] n).toList.toArray 9 (0, 0)) := by
  rw [heap_alloc_new w _]
theorem made_len (n : Nat) : (madeCells #[Value.string ⟨#[]⟩] n).toList.length = n := by simp [madeCells]

theorem src_cells {w wx : World} {b o n : Nat} {S : Nat → ByteArray} (hb : b < w.heap.size) (hbel : Below w.heap.size w wx) (hc : ∀ i, i < n → w.cell? ⟨b, o + i, none⟩ = some (.string (S i))) (j : Nat) (v : Value) (hv : (strCells S n)[j]? = some v) : wx.cell? ((⟨b, o, none⟩ : Addr).add j) = some v := by
  have hj : j < n := by
    have := (List.getElem?_eq_some_iff.1 hv).1
    rwa [strCells_len] at this
  rw [strCells_get hj] at hv
  cases hv
  have hadd : (⟨b, o, none⟩ : Addr).add j = ⟨b, o + j, none⟩ := by unfold Addr.add; split <;> simp_all
  rw [hadd, hbel.cell (p := ⟨b, o + j, none⟩) hb]
  exact hc j hj
end Go.Proofs.Qxb6613626a
