import Derived.Test.Qxb6613626aPk
namespace Go.Proofs.Qxb6613626a
open Go.RowKit Go.Maps

theorem colsOf_oneCell (cols : List Nat) (Z : Nat → Int) (q : Nat) : ∀ u ∈ colsOf cols Z q, u.oneCell' = true := by
  intro u hu
  simp only [colsOf, List.mem_map] at hu
  obtain ⟨r, _, rfl⟩ := hu
  rfl

def KCPost (w : World) (ps : List Nat) (e : Ending) (w' : World) : Prop := ∃ v, e = .returned v ∧ w'.ownsRow w.heap.size 34 1 v ps.length (ps.map ptrTo) ∧ Below w.heap.size w w'

/-- what the round reads of key k -/
theorem key_cells {w : World} {tb M : Nat} {ov kv pv : Value} {S T : Nat → ByteArray} {Z : Nat → Nat → Int} {L : Nat → Nat} {cols kbs : List Nat} {n m : Nat} (h : Table w tb M ov kv pv S T Z L cols kbs n m) (k : Nat) (hk : k < m) :
    ∃ gk capk cv, kv = .slice (some ⟨gk, 0, none⟩) m capk ∧ w.cell? ⟨gk, k, none⟩ = some (.pointer (some ⟨kbs.getD k 0, 0, none⟩)) ∧ w.cell? ⟨kbs.getD k 0, 1, none⟩ = some (.string (T k)) ∧ w.cell? ⟨kbs.getD k 0, 2, none⟩ = some cv ∧ w.ownsRow 0 34 1 cv (L k) (colsOf cols (Z k) (L k)) ∧
      gk < w.heap.size ∧ kbs.getD k 0 < w.heap.size := by
  obtain ⟨gk, capk, hv, _, hlt⟩ := h.kown.form (by omega)
  obtain ⟨cv, h1, h2⟩ := h.keys k hk
  rw [colsOf_len] at h2
  refine ⟨gk, capk, cv, hv, ?_, ?_, ?_, h2, hlt, lt_of_block h1⟩
  · have := h.kown.cells (g := gk) (by rw [hv]; rfl) k (ptrTo (kbs.getD k 0)) (by
      have hlz : k < kbs.length := by rw [h.klen]; exact hk
      simp [List.getElem?_map, List.getElem?_eq_getElem hlz])
    have hadd : (⟨gk, 0, none⟩ : Addr).add k = ⟨gk, k, none⟩ := by unfold Addr.add; split <;> simp_all
    rw [hadd] at this
    exact this
  · rw [cell_of_row _ _ _ _ _ _ h1]; rfl
  · rw [cell_of_row _ _ _ _ _ _ h1]; rfl

set_option maxRecDepth 100000 in
set_option maxHeartbeats 800000 in
theorem keyColumns_any (tb M : Nat) (ov kv pv : Value) (S T : Nat → ByteArray) (Z : Nat → Nat → Int) (L : Nat → Nat) (cols kbs : List Nat) (n m : Nat) (w : World) (hm : m ≤ 1048576) (hL : ∀ i, i < m → L i ≤ 1048576) (h : Table w tb M ov kv pv S T Z L cols kbs n m) :
    Calls Try.prog 35 #[.pointer (some ⟨tb, 0, none⟩), .string ⟨#[80, 82, 73, 77, 65, 82, 89, 32, 75, 69, 89]⟩] w fun e w' => KCPost w (pkB T Z L cols m) e w' := by
  obtain ⟨i0, hi, hz0, hz1, hz2⟩ := info_parts Try.info34
  have hT2 : w.cell? ⟨tb, 2, none⟩ = some kv := by rw [cell_of_row _ _ _ _ _ _ h.hT]; rfl
  have HT := hide h
  have HL := hide hL
  clear h hL
  obtain ⟨ka, capk, hkv⟩ : ∃ ka capk, kv = .slice ka m capk := by
    rcases (unhide HT).kown.2 with ⟨rfl, rfl⟩ | ⟨g, cap, cur, rfl, _⟩
    · exact ⟨_, _, rfl⟩
    · exact ⟨_, _, rfl⟩
  subst hkv
  go_enter Try.func35, Try.ntmps35
  go_wp2_with fail
  go_loopw [5, 13] (fun c i wr => ∃ (k : Nat) (v : Value), k ≤ m ∧ i = .int .i64 k ∧ v = c ∧ Hid (wr.ownsRow w.heap.size 34 1 v (pkB T Z L cols k).length ((pkB T Z L cols k).map ptrTo) ∧ Below w.heap.size w wr)) (fun _ i _ => m - (intOf i).toNat)
  case atStart => exact ⟨0, nilS, Nat.zero_le _, rfl, rfl, World.ownsRow_nil _ _ _ _, Below.refl _ _⟩
  case round =>
    obtain ⟨k, v, hk, rfl, rfl, HR⟩ := hrel
    by_cases hlt : k < m
    · obtain ⟨gk, capk', cv, hv, e1, e2, e3, e4, l1, l2⟩ := key_cells (unhide HT) k hlt
      obtain ⟨rfl, rfl⟩ : ka = some ⟨gk, 0, none⟩ ∧ capk = capk' := by simpa using hv
      clear hv
      obtain ⟨kb, hkb⟩ : ∃ x, kbs.getD k 0 = x := ⟨_, rfl⟩
      rw [hkb] at e1 e2 e3 l2
      clear hkb
      have f1 : wr.cell? ⟨gk, k, none⟩ = some (.pointer (some ⟨kb, 0, none⟩)) := ((unhide HR).2.cell (p := ⟨gk, k, none⟩) l1).trans e1
      have f2 : wr.cell? ⟨kb, 1, none⟩ = some (.string (T k)) := ((unhide HR).2.cell (p := ⟨kb, 1, none⟩) l2).trans e2
      have f3 : wr.cell? ⟨kb, 2, none⟩ = some cv := ((unhide HR).2.cell (p := ⟨kb, 2, none⟩) l2).trans e3
      have HO : Hid (wr.ownsRow 0 34 1 cv (L k) (colsOf cols (Z k) (L k))) := row_kept e4 (Nat.le_refl _) fun b cs hx _ => (unhide HR).2.block b (lt_of_block hx)
      have hLk := unhide HL k hlt
      have hlen := pkB_len (T := T) (Z := Z) (cols := cols) (unhide HL) k (by omega)
      have hsz := (unhide HR).2.size
      clear e1 e2 e3 e4
      cases hp : ((T k).toList == [80, 82, 73, 77, 65, 82, 89, 32, 75, 69, 89]) with
      | false =>
        have HP : Hid (isPK (T k) = false) := hp
        go_wp2_with fail
        go_roundw
        case rel => exact ⟨k + 1, v, by omega, by go_num, rfl, by rw [pkB_miss (unhide HP)]; exact unhide HR⟩
        case measure => simp [intOf]; omega
      | true =>
        have HP : Hid (isPK (T k) = true) := hp
        have HE := hide (pkB_hit (Z := Z) (L := L) (cols := cols) (unhide HP))
        have HE2 : Hid ((pkB T Z L cols (k + 1)).length = (pkB T Z L cols k).length + L k) := by
          have := congrArg List.length (unhide HE)
          have h2 : (pkB T Z L cols (k + 1)).length = (pkB T Z L cols k).length + L k := by simpa [colsOf_len] using this
          exact h2
        rcases (unhide HO).2 with ⟨rfl, h0⟩ | ⟨g, cap, cur, rfl, _⟩
        · have HZ0 := hide h0
          clear h0
          go_wp2_with (at_builtin; go_must (refine wpList_append_own_none rfl _ _ 32 rfl w.heap.size 34 i0 1 Try.underlying32 hi v _ _ (by rfl) (unhide HR).1 (by rfl) ?_))
          go_roundw
          case rel => exact ⟨k + 1, v, by omega, by go_num, rfl, by
            have e0 : colsOf cols (Z k) (L k) = [] := by rw [unhide HZ0]; rfl
            rw [unhide HE2, unhide HE, e0, unhide HZ0, List.append_nil]
            exact unhide HR⟩
          case measure => simp [intOf]; omega
        · go_wp2_with (at_builtin; go_must (refine wpList_append_own _ rfl _ _ 32 rfl w.heap.size 34 i0 (.pointer none) 1 8 Try.underlying32 hi hz0 hz1 hz2 rfl (by decide) v _ _ (by rfl) (unhide HR).1 ⟨g, 0, none⟩ (L k) cap (colsOf cols (Z k) (L k)) (by rfl) (by simp [colsOf_len]) ((unhide HO).cells rfl) (colsOf_oneCell _ _ _) (by unfold maxLen; omega) (by omega) hsz ?_); intro v' w1 hown' hgrow _; have HO1 := hide hown'; clear hown'; have HG1 := hide hgrow; clear hgrow)
          go_roundw
          case rel => exact ⟨k + 1, v', by omega, by go_num, rfl, by
            rw [unhide HE2, unhide HE]
            exact ⟨unhide HO1, (unhide HR).2.grown (unhide HG1) hsz fun j hj => ((unhide HR).1.lt j hj).1⟩⟩
          case measure => simp [intOf]; omega
    · obtain rfl : k = m := by omega
      go_wp2_with fail
      go_ret
      exact ⟨v, rfl, (unhide HR).1, (unhide HR).2⟩
end Go.Proofs.Qxb6613626a
