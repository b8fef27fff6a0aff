import Derived.Test.Qxb6613626aLawA
import Derived.Test.Qxb6613626aBytes5
import Derived.Test.Qxb6613626aChg
namespace Go.Proofs.Qxb6613626a
open Go.RowKit Go.Maps

/-! ### the plain law -/
theorem sEq_iff (x y : ByteArray) : sEq x y = true ↔ x.data.toList = y.data.toList := by
  unfold sEq
  rw [beq_iff_eq, ByteArray.toList_eq, ByteArray.toList_eq]

theorem lk_iff {D : DataW Unit} {S : Nat → ByteArray} {cols : List Nat} {n j : Nat} (hD : MapIs D S cols n) (hl : cols.length = n) (hinc : cols.Pairwise (· < ·)) (hj : j < n) (hdist : ∀ i k, i < k → k < n → sEq (S i) (S k) = false) (q : ByteArray) :
    lk D q = some (cols.getD j 0) ↔ sEq q (S j) = true := by
  have hne : ∀ i k, i < n → k < n → (S i).data.toList = (S k).data.toList → i = k := by
    intro i k hi hk e
    rcases Nat.lt_trichotomy i k with h | h | h
    · have := hdist i k h hk; rw [(sEq_iff _ _).2 e] at this; cases this
    · exact h
    · have := hdist k i h hi; rw [(sEq_iff _ _).2 e.symm] at this; cases this
  have at_i : ∀ i, i < n → q.data.toList = (S i).data.toList → lk D q = some (cols.getD i 0) := by
    intro i hi e
    have h := (hD.2 q.data.toList).1 i hi e.symm (fun k h1 h2 h3 => by have := hne i k hi h2 (e.symm.trans h3.symm); omega)
    simp [lk, h]
  rw [sEq_iff]
  constructor
  · intro h
    by_cases hex : ∃ i, i < n ∧ q.data.toList = (S i).data.toList
    · obtain ⟨i, hi, e⟩ := hex
      have := at_i i hi e
      rw [this] at h
      have e2 := pairwise_getD hinc (by omega) (by omega) (Option.some.inj h)
      subst e2
      exact e
    · have hno := (hD.2 q.data.toList).2 (fun i hi e => hex ⟨i, hi, e.symm⟩)
      simp [lk, hno] at h
  · exact at_i j hj

theorem lkB_mem (D : DataW Unit) (U : Nat → ByteArray) (k c : Nat) : c ∈ lkB D U k ↔ ∃ i, i < k ∧ lk D (U i) = some c := by
  simp [lkB, List.mem_filterMap]

theorem part_law {D : DataW Unit} {S U : Nat → ByteArray} {cols : List Nat} {n n3 j : Nat} (hD : MapIs D S cols n) (hl : cols.length = n) (hinc : cols.Pairwise (· < ·)) (hj : j < n) (hdist : ∀ i k, i < k → k < n → sEq (S i) (S k) = false) :
    cols.getD j 0 ∈ lkB D U n3 ↔ ∃ i, i < n3 ∧ sEq (U i) (S j) = true := by
  rw [lkB_mem]
  constructor
  · rintro ⟨i, hi, h⟩; exact ⟨i, hi, (lk_iff hD hl hinc hj hdist _).1 h⟩
  · rintro ⟨i, hi, h⟩; exact ⟨i, hi, (lk_iff hD hl hinc hj hdist _).2 h⟩

/-- whatever the map leads to is a column -/
theorem lkB_cols {D : DataW Unit} {S U : Nat → ByteArray} {cols : List Nat} {n n3 : Nat} (hD : MapIs D S cols n) (hl : cols.length = n) (hdist : ∀ i k, i < k → k < n → sEq (S i) (S k) = false) (c : Nat) (hc : c ∈ lkB D U n3) : c ∈ cols := by
  obtain ⟨i, _, h⟩ := (lkB_mem _ _ _ _).1 hc
  by_cases hex : ∃ k, k < n ∧ (S k).data.toList = (U i).data.toList
  · obtain ⟨k, hk, e⟩ := hex
    have hat := (hD.2 (U i).data.toList).1 k hk e (fun r h1 h2 h3 => by have := hdist k r h1 h2; rw [(sEq_iff _ _).2 (e.trans h3.symm)] at this; cases this)
    simp [lk, hat] at h
    subst h
    have hlt : k < cols.length := by omega
    simp [List.getElem?_eq_getElem hlt]
  · have hno := (hD.2 (U i).data.toList).2 (fun k hk e => hex ⟨k, hk, e⟩)
    simp [lk, hno] at h

end Go.Proofs.Qxb6613626a
