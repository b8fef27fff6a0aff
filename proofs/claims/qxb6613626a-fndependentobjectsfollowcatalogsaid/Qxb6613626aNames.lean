import Derived.Test.Qxb6613626aPk3
namespace Go.Proofs.Qxb6613626a
open Go.RowKit Go.Maps

set_option maxRecDepth 100000 in
set_option maxHeartbeats 400000 in
theorem zzFind_any (Q : Nat → ByteArray) (x : ByteArray) (a : Option Addr) (n c b off : Nat) (w : World) (hn : n ≤ 9223372036854775806) (ha : 0 < n → a = some ⟨b, off, none⟩)
    (hc : ∀ i, i < n → w.cell? ⟨b, off + i, none⟩ = some (.string (Q i))) :
    Calls Try.prog 21 #[.slice a n c, .string x] w fun e w' => ∃ r : Int, e = .returned (.int .i64 r) ∧ w' = w ∧ Hid ((0 ≤ r) ↔ ∃ i, i < n ∧ sEq (Q i) x = true) := by
  go_enter Try.func21, Try.ntmps21
  go_wp2
  go_loop [5] (fun i => ∃ k : Nat, k ≤ n ∧ i = .int .i64 k ∧ Hid (∀ i, i < k → sEq (Q i) x = false)) (fun i => n - (intOf i).toNat)
  case atStart => exact ⟨0, Nat.zero_le _, rfl, fun i hi => absurd hi (by omega)⟩
  case round =>
    obtain ⟨k, hk, rfl, hno⟩ := hrel
    by_cases hlt : k < n
    · obtain rfl := ha (by omega)
      have hck := hc k hlt
      clear ha
      cases he : ((Q k).toList == x.toList) with
      | true =>
        go_wp2
        go_ret
        exact ⟨_, rfl, rfl, ⟨fun _ => ⟨k, hlt, he⟩, fun _ => by omega⟩⟩
      | false =>
        go_wp2
        go_round
        case rel => exact ⟨k + 1, by omega, by go_num, fun i hi => by
          by_cases e : i = k
          · subst e; exact he
          · exact hno i (by omega)⟩
        case measure => simp [intOf]; omega
    · go_wp2
      go_ret
      exact ⟨_, rfl, rfl, ⟨fun h => by omega, fun ⟨i, hi, e⟩ => by have := unhide hno i (by omega); rw [e] at this; cases this⟩⟩

/-! ZZcolumnNames -/
def nameCells (Q : Nat → ByteArray) (k : Nat) : List Value := (List.range k).flatMap fun i => [.string (Q i), .string (Q i)]
theorem nameCells_succ (Q : Nat → ByteArray) (k : Nat) : nameCells Q (k + 1) = nameCells Q k ++ [.string (Q k), .string (Q k)] := by simp [nameCells, List.range_succ]
theorem nameCells_len (Q : Nat → ByteArray) : ∀ k, (nameCells Q k).length = k * 2
  | 0 => rfl
  | k + 1 => by rw [nameCells_succ, List.length_append, nameCells_len Q k]; simp; omega
theorem nameCells_get (Q : Nat → ByteArray) : ∀ (k i : Nat), i < k → (nameCells Q k)[2 * i]? = some (.string (Q i)) ∧ (nameCells Q k)[2 * i + 1]? = some (.string (Q i))
  | 0, i, h => by omega
  | k + 1, i, h => by
    rw [nameCells_succ]
    have hl := nameCells_len Q k
    by_cases e : i = k
    · subst e
      rw [List.getElem?_append_right (by omega), List.getElem?_append_right (by omega), hl]
      have e0 : 2 * i - i * 2 = 0 := by omega
      have e1 : 2 * i + 1 - i * 2 = 1 := by omega
      rw [e0, e1]
      exact ⟨rfl, rfl⟩
    · rw [List.getElem?_append_left (by omega), List.getElem?_append_left (by omega)]
      exact nameCells_get Q k i (by omega)
theorem Try.info59 : (Try.prog.info? 59).map (fun i => (i.zero, i.size, i.bytes)) = some (some (.agg #[.string ⟨#[]⟩, .string ⟨#[]⟩]), 2, 32) := by kernel_rfl
theorem two_oneCell (x : ByteArray) : ∀ u ∈ [Value.string x, .string x], u.oneCell' = true := by intro u hu; simp at hu; subst hu; rfl

def NamesPost (w : World) (Q : Nat → ByteArray) (n : Nat) (e : Ending) (w' : World) : Prop := ∃ v, e = .returned v ∧ w'.ownsRow w.heap.size 59 2 v n (nameCells Q n) ∧ Below w.heap.size w w'

set_option maxRecDepth 100000 in
set_option maxHeartbeats 800000 in
theorem columnNames_any (Q : Nat → ByteArray) (a : Option Addr) (n c b off : Nat) (w : World) (hn : n ≤ 1048576) (ha : 0 < n → a = some ⟨b, off, none⟩ ∧ b < w.heap.size)
    (hc : ∀ i, i < n → w.cell? ⟨b, off + i, none⟩ = some (.string (Q i))) :
    Calls Try.prog 27 #[.slice a n c] w fun e w' => NamesPost w Q n e w' := by
  obtain ⟨i0, hi, hz0, hz1, hz2⟩ := info_parts Try.info59
  have HC := hide (And.intro ha hc)
  clear ha hc
  go_enter Try.func27, Try.ntmps27
  go_wp2_with fail
  go_loopw [3, 8] (fun c i wr => ∃ (k : Nat) (v : Value), k ≤ n ∧ i = .int .i64 k ∧ v = c ∧ Hid (wr.ownsRow w.heap.size 59 2 v k (nameCells Q k) ∧ Below w.heap.size w wr)) (fun _ i _ => n - (intOf i).toNat)
  case atStart => exact ⟨0, nilS, Nat.zero_le _, rfl, rfl, World.ownsRow_nil _ _ _ _, Below.refl _ _⟩
  case round =>
    obtain ⟨k, v, hk, rfl, rfl, HR⟩ := hrel
    by_cases hlt : k < n
    · obtain ⟨rfl, hbl⟩ := (unhide HC).1 (by omega)
      have hck : wr.cell? ⟨b, off + k, none⟩ = some (.string (Q k)) := ((unhide HR).2.cell (p := ⟨b, off + k, none⟩) hbl).trans ((unhide HC).2 k hlt)
      have hsz := (unhide HR).2.size
      go_wp2_with (at_builtin; go_must (refine wpList_append_own _ rfl _ _ 67 rfl w.heap.size 59 i0 _ 2 32 Try.underlying67 hi hz0 hz1 hz2 rfl (by decide) v k _ (by rfl) ((unhide HR).1.alloc _) ⟨wr.heap.size, 0, none⟩ 1 1 [.string (Q k), .string (Q k)] (by rfl) rfl (World.news_of_block (cs := #[.string (Q k), .string (Q k)]) (t := 59) (fr := (0, 0)) (heap_alloc_new wr _)) (two_oneCell _) (by unfold maxLen; omega) (by omega) (by simp; omega) ?_); intro v' w1 hown' hgrow _; have HO1 := hide hown'; clear hown'; have HG1 := hide hgrow; clear hgrow)
      go_roundw
      case rel => exact ⟨k + 1, v', by omega, by go_num, rfl, by
        rw [nameCells_succ]
        exact ⟨unhide HO1, ((unhide HR).2.alloc hsz _).grown (unhide HG1) (by simp; omega) fun j hj => ((unhide HR).1.lt j hj).1⟩⟩
      case measure => simp [intOf]; omega
    · obtain rfl : k = n := by omega
      go_wp2_with fail
      go_ret
      exact ⟨v, rfl, (unhide HR).1, (unhide HR).2⟩
end Go.Proofs.Qxb6613626a
