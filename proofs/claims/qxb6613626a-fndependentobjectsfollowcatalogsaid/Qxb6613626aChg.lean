import Derived.Test.Qxb6613626aPart
import Derived.Deep.WholeRow
namespace Go.Proofs.Qxb6613626a
open Go.RowKit Go.Maps

def chgCells (a b c : Bool) : Array Value := #[.string ⟨#[]⟩, .slice none 0 0, .string ⟨#[]⟩, .slice none 0 0, .bool false, .bool false, .bool false, .string ⟨#[]⟩, .string ⟨#[]⟩,
  .string ⟨#[]⟩, .slice none 0 0, .string ⟨#[]⟩, .slice none 0 0, .bool false, .bool false, .bool false, .string ⟨#[]⟩, .string ⟨#[]⟩,
  .bool false, .bool a, .bool b, .bool c, .bool false, .bool false, .bool false, .bool false]
theorem chg_one (a b c : Bool) : (chgCells a b c).all (·.oneCell') = true := by simp [chgCells, Value.oneCell']
theorem Try.size44 : (Try.prog.info? 44).map (·.size) = some 26 := by kernel_rfl

/-- the store of a whole value into the block made last -/
theorem wpList_store_new {P : Program} {w : World} {ops : Array Oper} {rest : List Oper} {o : Oper} {a : Act} {Q : Exit → Act → World → Prop} (hgd : o.guard = none) (ty : TypeId) (x y : Operand) (ho : o.op = .store ty x y)
    (w0 : World) (c c' : Array Value) (hw : w = w0.alloc (.cells c ty)) (g : Nat) (hg : g = w0.heap.size) (hx : a.eval x = .pointer (some ⟨g, 0, none⟩)) (hy : a.eval y = .agg c')
    (hi : (P.info? ty).map (·.size) = some c'.size) (hs : c.size = c'.size) (h1 : c'.all (·.oneCell') = true)
    (h : wpList P ops Q rest (a.put o.dst undef) (w0.alloc (.cells c' ty))) : wpList P ops Q (o :: rest) a w := by
  refine wpList_plain hgd fun K hK => ?_
  subst hw
  subst hg
  unfold Oper.wp execOp
  simp only [ho, hx, hy, Instr.storeAt, Instr.sureAddr, Sem.run_bind, Sem.run_pure, Result.andThen_ok, run_storeVar_new (P := P) w0 ty c c' hi hs h1]
  exact hK _ _ h

set_option maxRecDepth 100000 in
set_option maxHeartbeats 800000 in
theorem dep_any (a b c : Bool) (w : World) :
    Calls Try.prog 31 #[.agg (chgCells a b c)] w fun e w' => e = .returned (.bool (a || c)) ∧ Below w.heap.size w w' := by
  have q19 : (chgCells a b c)[19]? = some (.bool a) := rfl
  have q21 : (chgCells a b c)[21]? = some (.bool c) := rfl
  have qs : (chgCells a b c).size = 26 := rfl
  generalize chgCells a b c = X at *
  have x19 : (w.alloc (.cells X 44)).cell? ⟨w.heap.size, 19, none⟩ = some (.bool a) := by rw [cell_of_row _ _ _ _ _ _ (heap_alloc_new w _)]; exact q19
  have x21 : (w.alloc (.cells X 44)).cell? ⟨w.heap.size, 21, none⟩ = some (.bool c) := by rw [cell_of_row _ _ _ _ _ _ (heap_alloc_new w _)]; exact q21
  cases a
  · go_enter Try.func31, Try.ntmps31
    go_wp2
    go_ret
    exact ⟨rfl, (Below.refl _ _).alloc (Nat.le_refl _) _⟩
  · go_enter Try.func31, Try.ntmps31
    go_wp2
    go_ret
    exact ⟨rfl, (Below.refl _ _).alloc (Nat.le_refl _) _⟩

set_option maxRecDepth 100000 in
set_option maxHeartbeats 800000 in
theorem newChange_any (a b c : Bool) (w : World) :
    Calls Try.prog 22 #[.string ⟨#[]⟩, .string ⟨#[]⟩, .bool false, .bool a, .bool b, .bool c, .bool false, .bool false, .bool false, .bool false] w fun e w' => e = .returned (.agg (chgCells a b c)) ∧ w' = w.alloc (.cells (chgCells a b c) 44) := by
  go_enter Try.func22, Try.ntmps22
  go_wp2_with (refine wpList_store_new rfl 44 (.tmp 20) (.tmp 33) rfl w _ (chgCells a b c) (by rfl) _ rfl (by rfl) (by rfl) Try.size44 (by rfl) (chg_one a b c) ?_)
  refine bodyPost_ret (v := .agg (chgCells a b c)) (results_cell_row Try.results22 _ _ w.heap.size 44 (chgCells a b c) (0, 0) _ (by rfl) (heap_alloc_new w _) Try.underlying44 rfl Try.size44) rfl ⟨rfl, rfl⟩

set_option maxRecDepth 100000 in
set_option maxHeartbeats 800000 in
theorem zzDep_any (a b c : Bool) (w : World) :
    Calls Try.prog 23 #[.agg (chgCells a b c)] w fun e w' => e = .returned (.bool (a || c)) ∧ Below w.heap.size w w' := by
  have hd := dep_any a b c
  have qs : (Try.prog.info? 44).map (·.size) = some (chgCells a b c).size := Try.size44
  generalize chgCells a b c = X at *
  have HD := hide hd
  have HQ := hide qs
  clear hd qs
  go_enter Try.func23, Try.ntmps23
  go_wp2_with (first
    | (refine wpList_load_row rfl 44 (.tmp 1) rfl w.heap.size (by rfl) 44 X (0, 0) _ (heap_alloc_new w _) Try.underlying44 rfl (unhide HQ) ?_)
    | (go_at_call 31; refine (unhide HD _).mono ?_; rintro e w1 ⟨rfl, hb⟩))
  go_ret
  exact ⟨rfl, ((Below.refl _ _).alloc (Nat.le_refl _) _).trans (hb.mono (by simp))⟩
end Go.Proofs.Qxb6613626a
