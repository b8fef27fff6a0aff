import Derived.Test.Qxb6613727aProg
import Derived.WalkKit
import Derived.Laws.Tables
import Derived.Laws.MakeOwn
import Derived.Deep.OwnRows
namespace Go.Proofs.Qxb6613727a
open Go.RowKit

/-- one part laid into the cells -/
def putAt (off : Nat) (vs : List Value) (cs : Array Value) : Array Value := (vs.zipIdx).foldl (fun cs x => cs.setIfInBounds (off + x.2) x.1) cs

theorem put_list (off : Nat) : ∀ (l : List Value) (s : Nat) (cs : Array Value),
    ((l.zipIdx s).foldl (fun cs x => cs.setIfInBounds (off + x.2) x.1) cs).size = cs.size ∧
    (∀ k, (k < off + s ∨ off + s + l.length ≤ k) → ((l.zipIdx s).foldl (fun cs x => cs.setIfInBounds (off + x.2) x.1) cs)[k]? = cs[k]?) ∧
    (∀ i, i < l.length → off + s + i < cs.size → ((l.zipIdx s).foldl (fun cs x => cs.setIfInBounds (off + x.2) x.1) cs)[off + s + i]? = l[i]?)
  | [], s, cs => ⟨rfl, fun _ _ => rfl, fun i hi => by simp at hi⟩
  | v :: r, s, cs => by
    obtain ⟨h1, h2, h3⟩ := put_list off r (s + 1) (cs.setIfInBounds (off + s) v)
    simp only [List.zipIdx_cons, List.foldl_cons]
    refine ⟨by rw [h1]; simp, fun k hk => ?_, fun i hi hlt => ?_⟩
    · rw [h2 k (by simp at hk; omega), Array.getElem?_setIfInBounds, if_neg (by simp at hk; omega)]
    · cases i with
      | zero => rw [h2 _ (by omega), Nat.add_zero, Array.getElem?_setIfInBounds, if_pos rfl, if_pos (by omega)]; rfl
      | succ j => rw [show off + s + (j + 1) = off + (s + 1) + j by omega, h3 j (by simpa using hi) (by simp; omega)]; rfl

theorem putAt_size (off : Nat) (vs : List Value) (cs : Array Value) : (putAt off vs cs).size = cs.size := (put_list off vs 0 cs).1
theorem putAt_out {off : Nat} {vs : List Value} {cs : Array Value} {k : Nat} (h : k < off ∨ off + vs.length ≤ k) : (putAt off vs cs)[k]? = cs[k]? := (put_list off vs 0 cs).2.1 k (by omega)
theorem putAt_in {off : Nat} {vs : List Value} {cs : Array Value} {i : Nat} (h : i < vs.length) (hl : off + i < cs.size) : (putAt off vs cs)[off + i]? = vs[i]? := by
  have := (put_list off vs 0 cs).2.2 i h (by omega)
  simpa [putAt] using this
theorem putAt_one {off : Nat} {vs : List Value} {cs : Array Value} (h1 : ∀ (k : Nat) v, cs[k]? = some v → v.oneCell' = true) (h2 : ∀ v ∈ vs, v.oneCell' = true) : ∀ (k : Nat) v, (putAt off vs cs)[k]? = some v → v.oneCell' = true := by
  intro k v hv
  by_cases ho : k < off ∨ off + vs.length ≤ k
  · rw [putAt_out ho] at hv; exact h1 k v hv
  · have hk : k < cs.size := by
      have := (Array.getElem?_eq_some_iff.1 hv).1
      rwa [putAt_size] at this
    obtain ⟨i, rfl⟩ : ∃ i, k = off + i := ⟨k - off, by omega⟩
    rw [putAt_in (by omega) hk] at hv
    exact h2 v (List.mem_of_getElem? hv)

theorem fill_cons {place : Nat → Option (Nat × Nat)} {cells : Array Value} {i : Nat} {v : Value} {rest : List (Nat × Value)} {off size : Nat} (hp : place i = some (off, size)) (hs : v.cells.size = size) (hf : off + size ≤ cells.size) :
    Instr.fill place cells ((i, v) :: rest) = Instr.fill place (putAt off v.cells.toList cells) rest := by
  rw [Instr.fill]
  simp only [hp]
  rw [if_neg (by simp; omega)]
  congr 1
  unfold putAt
  rw [← Array.toList_zipIdx, Array.foldl_toList]

theorem Try.info44 : (Try.prog.info? 44).map (fun i => (i.size, i.bytes)) = some (131, 168) := by kernel_rfl
theorem Try.size44 : (Try.prog.info? 44).map (·.size) = some 131 := by kernel_rfl
theorem Try.size50 : (Try.prog.info? 50).map (·.size) = some 131 := by kernel_rfl
theorem Try.size42 : (Try.prog.info? 42).map (·.size) = some 32 := by kernel_rfl

/-- one element, as a slice of its own -/
theorem run_slice1 (A : List Value) (hA : A.length = 131) (w : World) :
    (Instr.buildSlice 22 1 #[(0, .agg A.toArray)]).run Try.prog w = .ok (.slice (some ⟨w.heap.size, 0, none⟩) 1 1) (w.alloc (.cells A.toArray 44)) := by
  cases hi : Try.prog.info? 44 with
  | none => have := Try.size44; rw [hi] at this; cases this
  | some i =>
    have hsz : i.size = 131 := by have := Try.size44; rw [hi] at this; simpa using this
    have hz : ∃ z, i.zero = some z := by
      have : (Try.prog.info? 44).bind (·.zero) ≠ none := by
        have h : ((Try.prog.info? 44).bind (·.zero)).isSome = true := by kernel_rfl
        intro e; rw [e] at h; cases h
      rw [hi] at this
      simpa using Option.ne_none_iff_exists'.1 this
    obtain ⟨z, hz⟩ := hz
    have hfill : ∀ Z : Array Value, Z.size = 131 → Instr.fill (fun i => some (i * 131, 131)) Z [(0, .agg A.toArray)] = some A.toArray := by
      intro Z hZ
      rw [fill_cons (off := 0) (size := 131) (by rfl) (by simp [Value.cells, hA]) (by omega)]
      simp only [Instr.fill, Value.cells]
      congr 1
      apply Array.ext_getElem?
      intro k
      by_cases hk : k < 131
      · have := putAt_in (off := 0) (vs := A) (cs := Z) (i := k) (by omega) (by omega)
        rw [Nat.zero_add] at this
        simpa using this
      · rw [Array.getElem?_eq_none (by rw [putAt_size]; omega), Array.getElem?_eq_none (by simp; omega)]
    simp [Instr.buildSlice, run_underlying Try.underlying22, sizeOf, typeInfo, hi, hsz, zeroValue, hz, hfill, newRow]
end Go.Proofs.Qxb6613727a
