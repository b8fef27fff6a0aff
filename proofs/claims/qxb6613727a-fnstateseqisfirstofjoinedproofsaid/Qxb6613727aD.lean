import Derived.Test.Qxb6613727aC
import Derived.OneCell
namespace Go.Proofs.Qxb6613727a
open Go.RowKit

theorem wpList_build_to {P : Program} {ops : Array Oper} {rest : List Oper} {o : Oper} {a : Act} {w : World} {Q : Exit → Act → World → Prop} (hgd : o.guard = none) (t : TypeId) (parts : Array (Nat × Operand)) (ho : o.op = .build t parts)
    (X : Array Value) (hb : P.built t (parts.map fun (i, x) => (i, a.eval x)).toList = some X) (h : wpList P ops Q rest (a.put o.dst (.agg X)) w) : wpList P ops Q (o :: rest) a w := by
  refine wpList_plain hgd fun K hK => ?_
  unfold Oper.wp execOp
  simp only [ho, Sem.run_bind, run_build w t _ X hb, Result.andThen_ok]
  exact hK _ _ h

def Z48 : Array Value := #[.int .u64 0] ++ (List.replicate 128 (Value.int .u8 0)).toArray
def Z50 : Array Value := #[.int .u32 0, .int .u64 0] ++ (List.replicate 128 (Value.int .u8 0)).toArray ++ #[.slice none 0 0]
theorem Z48_size : Z48.size = 129 := by simp [Z48]
theorem Z50_size : Z50.size = 131 := by simp [Z50]
theorem Z48_one : ∀ (k : Nat) v, Z48[k]? = some v → v.oneCell' = true := by
  intro k v h
  have hm : v ∈ Z48 := Array.mem_of_getElem? h
  simp only [Z48, Array.mem_append, List.mem_toArray, List.mem_replicate] at hm
  rcases hm with hm | hm
  · simp at hm; subst hm; rfl
  · rw [hm.2]; rfl
theorem Z50_one : ∀ (k : Nat) v, Z50[k]? = some v → v.oneCell' = true := by
  intro k v h
  have hm : v ∈ Z50 := Array.mem_of_getElem? h
  simp only [Z50, Array.mem_append, List.mem_toArray, List.mem_replicate] at hm
  rcases hm with (hm | hm) | hm
  · simp at hm; rcases hm with rfl | rfl <;> rfl
  · rw [hm.2]; rfl
  · simp at hm; subst hm; rfl
theorem built48_eq (parts : List (Nat × Value)) : Try.prog.built 48 parts = Instr.fill (([(0, 1), (1, 32), (33, 32), (65, 32), (97, 32)] : List (Nat × Nat)).toArray[·]?) Z48 parts := by kernel_rfl
theorem built50_eq (parts : List (Nat × Value)) : Try.prog.built 50 parts = Instr.fill (([(0, 1), (1, 129), (130, 1)] : List (Nat × Nat)).toArray[·]?) Z50 parts := by kernel_rfl

theorem built48 (s : Int) (A B C D : List Value) (hA : A.length = 32) (hB : B.length = 32) (hC : C.length = 32) (hD : D.length = 32) (oA : ∀ v ∈ A, v.oneCell' = true) (oB : ∀ v ∈ B, v.oneCell' = true) (oC : ∀ v ∈ C, v.oneCell' = true) (oD : ∀ v ∈ D, v.oneCell' = true) :
    ∃ X, Try.prog.built 48 [(0, .int .u64 s), (1, .agg A.toArray), (2, .agg B.toArray), (3, .agg C.toArray), (4, .agg D.toArray)] = some X ∧ X.size = 129 ∧ (∀ (k : Nat) v, X[k]? = some v → v.oneCell' = true) ∧ X[0]? = some (.int .u64 s) := by
  refine ⟨putAt 97 D (putAt 65 C (putAt 33 B (putAt 1 A (putAt 0 [.int .u64 s] Z48)))), ?_, ?_, ?_, ?_⟩
  · rw [built48_eq, fill_cons (off := 0) (size := 1) rfl rfl (by rw [Z48_size]; omega), fill_cons (off := 1) (size := 32) rfl (by simp [Value.cells, hA]) (by rw [putAt_size, Z48_size]; omega),
      fill_cons (off := 33) (size := 32) rfl (by simp [Value.cells, hB]) (by rw [putAt_size, putAt_size, Z48_size]; omega), fill_cons (off := 65) (size := 32) rfl (by simp [Value.cells, hC]) (by rw [putAt_size, putAt_size, putAt_size, Z48_size]; omega),
      fill_cons (off := 97) (size := 32) rfl (by simp [Value.cells, hD]) (by rw [putAt_size, putAt_size, putAt_size, putAt_size, Z48_size]; omega)]
    simp [Instr.fill, Value.cells]
  · simp [putAt_size, Z48_size]
  · exact putAt_one (putAt_one (putAt_one (putAt_one (putAt_one Z48_one (by simp [Value.oneCell'])) oA) oB) oC) oD
  · rw [putAt_out (by omega), putAt_out (by omega), putAt_out (by omega), putAt_out (by omega)]
    have := putAt_in (off := 0) (vs := [.int .u64 s]) (cs := Z48) (i := 0) (by simp) (by rw [Z48_size]; omega)
    simpa using this

theorem built50 (r s : Int) (X : Array Value) (sg : Value) (hs : sg.cells = #[sg]) (osg : sg.oneCell' = true) (hX : X.size = 129) (oX : ∀ (k : Nat) v, X[k]? = some v → v.oneCell' = true) (h0 : X[0]? = some (.int .u64 s)) :
    ∃ Y, Try.prog.built 50 [(0, .int .u32 r), (1, .agg X), (2, sg)] = some Y ∧ Y.size = 131 ∧ Y.all (·.oneCell') = true ∧ Y[1]? = some (.int .u64 s) := by
  refine ⟨putAt 130 [sg] (putAt 1 X.toList (putAt 0 [.int .u32 r] Z50)), ?_, ?_, ?_, ?_⟩
  · rw [built50_eq, fill_cons (off := 0) (size := 1) rfl rfl (by rw [Z50_size]; omega), fill_cons (off := 1) (size := 129) rfl (by simp [Value.cells, hX]) (by rw [putAt_size, Z50_size]; omega),
      fill_cons (off := 130) (size := 1) rfl (by rw [hs]; rfl) (by rw [putAt_size, putAt_size, Z50_size]; omega)]
    rw [hs]
    simp [Instr.fill, Value.cells]
  · simp [putAt_size, Z50_size]
  · rw [Array.all_eq_true_iff_forall_mem]
    intro v hv
    obtain ⟨k, hk⟩ := Array.getElem?_of_mem hv
    exact putAt_one (putAt_one (putAt_one Z50_one (by simp [Value.oneCell'])) (fun v hv => by obtain ⟨k, hk⟩ := List.getElem?_of_mem hv; exact oX k v (by simpa using hk))) (by simpa using osg) k v hk
  · rw [putAt_out (by omega)]
    have := putAt_in (off := 1) (vs := X.toList) (cs := putAt 0 [.int .u32 r] Z50) (i := 0) (by simp; omega) (by rw [putAt_size, Z50_size]; omega)
    rw [Nat.add_zero] at this
    rw [this]
    simpa using h0

theorem setCells_facts {g : Nat} {t : TypeId} : ∀ (vs : List Value) (o : Nat) (W : World) (R : Array Value), W.heap[g]? = some (.cells R t (0, 0)) →
    (∃ R', (W.setCells g o vs).heap[g]? = some (.cells R' t (0, 0)) ∧ R'.size = R.size) ∧ ∀ B, B ≤ g → Below B W (W.setCells g o vs)
  | [], _, W, R, h => ⟨⟨R, h, rfl⟩, fun B _ => Below.refl B W⟩
  | v :: r, o, W, R, h => by
    have h1 : (W.setCell ⟨g, o, none⟩ v).heap[g]? = some (.cells (R.setIfInBounds o v) t (0, 0)) := by
      have hlt := lt_of_block h
      have h' : W.heap[g] = .cells R t (0, 0) := by simpa [Array.getElem?_eq_getElem hlt] using h
      show (W.heap.modify g _)[g]? = _
      rw [Array.getElem?_eq_getElem (by simpa using hlt), Array.getElem_modify_self, h']
      rfl
    obtain ⟨⟨R', h2, h3⟩, h4⟩ := setCells_facts r (o + 1) _ _ h1
    exact ⟨⟨R', h2, by rw [h3]; simp⟩, fun B hB => ((Below.refl B W).setCell (p := ⟨g, o, none⟩) hB v).trans (h4 B hB)⟩
end Go.Proofs.Qxb6613727a
