import Derived.Test.Qxb6613727aE
namespace Go.Proofs.Qxb6613727a
open Go.RowKit

def seqVal (n : Nat) (s : Int) : Int := if n = 0 then 0 else s

set_option maxRecDepth 100000 in
set_option maxHeartbeats 400000 in
theorem proofSeq_any (a : Option Addr) (n c : Nat) (s : Int) (w : World) (h : 0 < n → ∃ g, a = some ⟨g, 0, none⟩ ∧ g < w.heap.size ∧ w.cell? ⟨g, 1, none⟩ = some (.int .u64 s)) :
    Calls Try.prog 9 #[.slice a n c] w fun e w' => e = .returned (.int .u64 (seqVal n s)) ∧ w' = w := by
  by_cases h0 : n = 0
  · subst h0
    clear h
    go_enter Try.func9, Try.ntmps9
    go_wp2
    go_ret
    exact ⟨rfl, rfl⟩
  · obtain ⟨g, rfl, -, hc⟩ := h (by omega)
    have hv : seqVal n s = s := by simp [seqVal, h0]
    rw [hv]
    clear hv h
    go_enter Try.func9, Try.ntmps9
    go_wp2
    go_ret
    exact ⟨rfl, rfl⟩

set_option maxRecDepth 100000 in
set_option maxHeartbeats 400000 in
theorem stateSeq_any (A : Array Value) (a : Option Addr) (n c : Nat) (s : Int) (w : World) (hA : A[0]? = some (.slice a n c)) (h : 0 < n → ∃ g, a = some ⟨g, 0, none⟩ ∧ g < w.heap.size ∧ w.cell? ⟨g, 1, none⟩ = some (.int .u64 s)) :
    Calls Try.prog 8 #[.agg A] w fun e w' => e = .returned (.int .u64 (seqVal n s)) ∧ w' = w.alloc (.cells A 39) := by
  have x0 : (w.alloc (.cells A 39)).cell? ⟨w.heap.size, 0, none⟩ = some (.slice a n c) := by rw [cell_of_row _ _ _ _ _ _ (heap_alloc_new w _)]; exact hA
  have HP := hide (proofSeq_any a n c s (w.alloc (.cells A 39)) (fun h0 => by
    obtain ⟨g, h1, h2, h3⟩ := h h0
    exact ⟨g, h1, by simp; omega, by rw [World.cell?_of_block (w := w) (Below.heap_alloc _ _ _ h2)]; exact h3⟩))
  clear h hA
  go_enter Try.func8, Try.ntmps8
  go_wp2_with (go_at_call 9; refine (unhide HP).mono ?_; rintro e w1 ⟨rfl, rfl⟩)
  go_ret
  exact ⟨rfl, rfl⟩
end Go.Proofs.Qxb6613727a
