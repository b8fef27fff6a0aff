import Derived.Test.Qxb6613626aNames
import Derived.Maps.OwnOps
namespace Go.Proofs.Qxb6613626a
open Go.RowKit Go.Maps

/-- what the map leads to at a name -/
def lk (D : DataW Unit) (s : ByteArray) : Option Nat :=
  match D.atKey (.string s.data.toList) .nil with
  | .lit (.int .u64 c) => some c.toNat
  | _ => none
def ptrOf : Option Nat → Value
  | none => .pointer none
  | some c => .pointer (some ⟨c, 0, none⟩)
theorem zero34 (w : World) : (zeroValue 34).run Try.prog w = .ok (.pointer none) w := by kernel_rfl
theorem map_look {w : World} {M n : Nat} {D : DataW Unit} (h : w.ownsMap Try.prog 9 ptrElem M n D) (s : ByteArray) (hs : s.size ≤ maxLen) :
    (Instr.lookup 51 (.map (some M)) (.string s) false).run Try.prog w = .ok (ptrOf (lk D s)) w := by
  obtain ⟨v, ps, hrun, hR⟩ := h.lookup law9 Try.underlying51 (zero34 w) (zd := .nil) (zp := []) rfl (WideMaps.keyOf_string_mk Try.underlying9 hs)
  rw [hrun]
  unfold ptrElem at hR
  split at hR
  · simp only [Option.some.injEq, Prod.mk.injEq] at hR
    simp [lk, ← hR.1, ptrOf]
  · split at hR
    · rename_i a ha
      simp only [Option.some.injEq, Prod.mk.injEq] at hR
      obtain ⟨b, off, spot⟩ := a
      simp at ha
      obtain ⟨rfl, rfl⟩ := ha
      simp [lk, ← hR.1, ptrOf]
    · cases hR
  · cases hR

/-- the columns that the first k names lead to -/
def lkB (D : DataW Unit) (Q : Nat → ByteArray) (k : Nat) : List Nat := (List.range k).filterMap fun i => lk D (Q i)
theorem lkB_some {D : DataW Unit} {Q : Nat → ByteArray} {k c : Nat} (h : lk D (Q k) = some c) : lkB D Q (k + 1) = lkB D Q k ++ [c] := by simp [lkB, List.range_succ, h]
theorem lkB_none {D : DataW Unit} {Q : Nat → ByteArray} {k : Nat} (h : lk D (Q k) = none) : lkB D Q (k + 1) = lkB D Q k := by simp [lkB, List.range_succ, h]
theorem lkB_len (D : DataW Unit) (Q : Nat → ByteArray) (k : Nat) : (lkB D Q k).length ≤ k := by
  have := List.length_filterMap_le (fun i => lk D (Q i)) (List.range k)
  simpa [lkB] using this

theorem names_cells {w : World} {g n c : Nat} {Q : Nat → ByteArray} (h : w.ownsRow 0 59 2 (.slice (some ⟨g, 0, none⟩) n c) n (nameCells Q n)) (k : Nat) (hk : k < n) : w.cell? ⟨g, k * 2, none⟩ = some (.string (Q k)) ∧ w.cell? ⟨g, k * 2 + 1, none⟩ = some (.string (Q k)) := by
  obtain ⟨e0, e1⟩ := nameCells_get Q n k hk
  have h0 := h.cells (g := g) rfl _ _ e0
  have h1 := h.cells (g := g) rfl _ _ e1
  have hadd : ∀ j, (⟨g, 0, none⟩ : Addr).add j = ⟨g, j, none⟩ := fun j => by unfold Addr.add; split <;> simp_all
  rw [hadd, Nat.mul_comm] at h0
  rw [hadd, Nat.mul_comm] at h1
  exact ⟨h0, h1⟩

theorem own_drewN {w : World} {base : Nat} {e : TypeId} {size : Nat} {v : Value} {n : Nat} {xs : List Value} (h : w.ownsRow base e size v n xs) (q : Nat) : (w.drewN q).ownsRow base e size v n xs := h

theorem blk_new2 (wr : World) (X : Obj) (nq c : Nat) : (((wr.alloc X).drewN nq).alloc (.cells #[.pointer (some ⟨c, 0, none⟩)] 34)).heap[wr.heap.size + 1]? = some (.cells #[ptrTo c] 34 (0, 0)) := by
  have h := heap_alloc_new ((wr.alloc X).drewN nq) (.cells #[.pointer (some ⟨c, 0, none⟩)] 34)
  have e : ((wr.alloc X).drewN nq).heap.size = wr.heap.size + 1 := by simp
  rw [e] at h
  exact h

def LookPost (w : World) (D : DataW Unit) (Q : Nat → ByteArray) (n : Nat) (e : Ending) (w' : World) : Prop := ∃ v, e = .returned v ∧ w'.ownsRow w.heap.size 34 1 v (lkB D Q n).length ((lkB D Q n).map ptrTo) ∧ Below w.heap.size w w'

set_option maxRecDepth 100000 in
set_option maxHeartbeats 800000 in
theorem lookup_any (tb M N : Nat) (D : DataW Unit) (Q : Nat → ByteArray) (nv : Value) (n : Nat) (w : World) (hn : n ≤ 1048576) (hQ : ∀ i, i < n → (Q i).size ≤ maxLen)
    (hT : w.cell? ⟨tb, 0, none⟩ = some (.map (some M))) (hm : w.ownsMap Try.prog 9 ptrElem M N D) (hv : w.ownsRow 0 59 2 nv n (nameCells Q n)) :
    Calls Try.prog 32 #[.pointer (some ⟨tb, 0, none⟩), nv] w fun e w' => LookPost w D Q n e w' := by
  obtain ⟨i0, hi, hz0, hz1, hz2⟩ := info_parts Try.info34
  obtain ⟨na, nc, ng, hnv, hna⟩ : ∃ na nc ng, nv = .slice na n nc ∧ (0 < n → na = some ⟨ng, 0, none⟩ ∧ ng < w.heap.size) := by
    rcases hv.2 with ⟨rfl, h0⟩ | ⟨g, cap, cur, rfl, _, hg, _⟩
    · exact ⟨none, 0, 0, by rw [h0], fun h => by omega⟩
    · exact ⟨_, _, g, rfl, fun _ => ⟨rfl, lt_of_block hg⟩⟩
  subst hnv
  have HV := hide hv
  have HM := hide hm
  have HNA := hide hna
  have HQ := hide hQ
  have hTl := World.block_lt_of_cell? w _ hT
  have hTl : tb < w.heap.size := hTl
  clear hv hm hna hQ
  go_enter Try.func32, Try.ntmps32
  go_wp2_with fail
  go_loopw [5, 11] (fun c i wr => ∃ (k : Nat) (v : Value), k ≤ n ∧ i = .int .i64 k ∧ v = c ∧ Hid (wr.ownsRow w.heap.size 34 1 v (lkB D Q k).length ((lkB D Q k).map ptrTo) ∧ Below w.heap.size w wr)) (fun _ i _ => n - (intOf i).toNat)
  case atStart => exact ⟨0, nilS, Nat.zero_le _, rfl, rfl, World.ownsRow_nil _ _ _ _, Below.refl _ _⟩
  case round =>
    obtain ⟨k, v, hk, rfl, rfl, HR⟩ := hrel
    by_cases hlt : k < n
    · obtain ⟨rfl, hgl⟩ := unhide HNA (by omega)
      have hsz := (unhide HR).2.size
      have HC := hide (names_cells (unhide HV) k hlt)
      have hc0 : wr.cell? ⟨ng, k * 2, none⟩ = some (.string (Q k)) := ((unhide HR).2.cell (p := ⟨ng, k * 2, none⟩) hgl).trans (unhide HC).1
      have hc1 : wr.cell? ⟨ng, k * 2 + 1, none⟩ = some (.string (Q k)) := ((unhide HR).2.cell (p := ⟨ng, k * 2 + 1, none⟩) hgl).trans (unhide HC).2
      have hTr : wr.cell? ⟨tb, 0, none⟩ = some (.map (some M)) := ((unhide HR).2.cell (p := ⟨tb, 0, none⟩) hTl).trans hT
      have hTlr : tb < wr.heap.size := by omega
      have hmr : wr.ownsMap Try.prog 9 ptrElem M N D := (unhide HM).kept (row := none) ⟨(unhide HR).2.os, (unhide HR).2.tape, (unhide HR).2.output, hsz, fun b hb _ => (unhide HR).2.block b hb⟩ (by simp)
      have hlook : ∀ x o, (Instr.lookup 51 (.map (some M)) (.string (Q k)) false).run Try.prog ((wr.alloc o).drewN x) = .ok (ptrOf (lk D (Q k))) ((wr.alloc o).drewN x) := fun x o => map_look (w := (wr.alloc o).drewN x) (hmr.alloc o) (Q k) (unhide HQ k hlt)
      clear hmr
      have HLB := hide (lkB_len D Q k)
      cases hl : lk D (Q k) with
      | none =>
        rw [hl] at hlook
        have HL := hide hl
        clear hl
        have hlook2 : ∀ x o, (Instr.lookup 51 (.map (some M)) (.string (Q k)) false).run Try.prog ((wr.alloc o).drewN x) = .ok (.pointer none) ((wr.alloc o).drewN x) := hlook
        clear hlook
        go_wp2
        go_quiet (fail)
        go_wp2
        go_roundw
        case rel => exact ⟨k + 1, v, by omega, by go_num, rfl, by
          rw [lkB_none (unhide HL)]
          exact ⟨(unhide HR).1.alloc _, below_drewN ((unhide HR).2.alloc hsz _) _⟩⟩
        case measure => simp [intOf]; omega
      | some c =>
        rw [hl] at hlook
        have HL := hide hl
        clear hl
        have hlook2 : ∀ x o, (Instr.lookup 51 (.map (some M)) (.string (Q k)) false).run Try.prog ((wr.alloc o).drewN x) = .ok (.pointer (some ⟨c, 0, none⟩)) ((wr.alloc o).drewN x) := hlook
        clear hlook
        go_wp2
        go_quiet (fail)
        have hlb := unhide HLB
        go_wp2_with (at_builtin; go_must (refine wpList_append_own _ rfl _ _ 32 rfl w.heap.size 34 i0 (.pointer none) 1 8 Try.underlying32 hi hz0 hz1 hz2 rfl (by decide) v _ _ (by rfl) ((own_drewN ((unhide HR).1.alloc _) nq).alloc _) ⟨wr.heap.size + 1, 0, none⟩ 1 1 [ptrTo c] (by rfl) rfl (World.news_of_block (cs := #[ptrTo c]) (t := 34) (fr := (0, 0)) (blk_new2 wr _ nq c)) (ptr_oneCell _) (by unfold maxLen; omega) (by omega) (by simp; omega) ?_); intro v' w1 hown' hgrow _; have HO1 := hide hown'; clear hown'; have HG1 := hide hgrow; clear hgrow)
        go_roundw
        case rel => exact ⟨k + 1, v', by omega, by go_num, rfl, by
          rw [lkB_some (unhide HL)]
          refine ⟨by simpa using unhide HO1, ?_⟩
          exact ((below_drewN ((unhide HR).2.alloc hsz _) nq).alloc (by simp; omega) _).grown (unhide HG1) (by simp; omega) fun j hj => ((unhide HR).1.lt j hj).1⟩
        case measure => simp [intOf]; omega
    · obtain rfl : k = n := by omega
      go_wp2_with fail
      go_ret
      exact ⟨v, rfl, (unhide HR).1, (unhide HR).2⟩
end Go.Proofs.Qxb6613626a
