import Derived.Test.Qxb6613626aNewT
import Derived.Test.Qxb6613626aLeafB
import Derived.LaidEql
import Derived.Laws.AppendOwnNone
namespace Go.Proofs.Qxb6613626a
open Go.RowKit Go.Maps

/-- block b is a row of plain cells, none frozen -/
def PB (w : World) (b : Nat) : Prop := ∃ cs t, w.heap[b]? = some (.cells cs t (0, 0))
theorem Try.info61 : (Try.prog.info? 61).map (fun i => (i.zero.isSome, i.size, i.bytes)) = some (true, 13, 192) := by kernel_rfl

theorem run_eql_col (w : World) (b c : Nat) (hb : PB w b) (hc : PB w c) : (binOp .eql 34 (.pointer (some ⟨b, 0, none⟩)) (.pointer (some ⟨c, 0, none⟩))).run Try.prog w = .ok (.bool (b == c)) w := by
  obtain ⟨cb, tb, hb⟩ := hb
  obtain ⟨cc, tc, hc⟩ := hc
  have h61 := Try.info61
  cases hi : Try.prog.info? 61 with
  | none => rw [hi] at h61; simp at h61
  | some j =>
    rw [hi] at h61
    simp at h61
    have hsz : j.size ≠ 0 := by omega
    have key : ∀ d : Nat, (Op.equalIn (d + 1) 34 (.pointer (some ⟨b, 0, none⟩)) (.pointer (some ⟨c, 0, none⟩))).run Try.prog w = .ok (b == c) w := fun d => by
      by_cases e : b = c
      · subst e
        simp [Op.equalIn, run_underlying Try.underlying34, typeInfo, sizeOf, hi, run_sameAddr_same]
      · have hne : (⟨b, 0, none⟩ : Addr) ≠ ⟨c, 0, none⟩ := fun h => e (congrArg Addr.block h)
        have e' : (b == c) = false := by simpa using e
        simp [Op.equalIn, run_underlying Try.underlying34, typeInfo, sizeOf, hi, hsz, run_sameAddr_other w hne hb hc, e']
    simp only [binOp]
    simp [Op.equal, Op.maxDepth, key 9999]

set_option maxRecDepth 100000 in
set_option maxHeartbeats 400000 in
theorem index_any (P : Nat → Nat) (b : Nat) (a : Option Addr) (n c g off : Nat) (w : World) (hn : n ≤ 9223372036854775806) (ha : 0 < n → a = some ⟨g, off, none⟩)
    (hc : ∀ i, i < n → w.cell? ⟨g, off + i, none⟩ = some (.pointer (some ⟨P i, 0, none⟩))) (hb : PB w b) (hP : ∀ i, i < n → PB w (P i)) :
    Calls Try.prog 39 #[.slice a n c, .pointer (some ⟨b, 0, none⟩)] w fun e w' => ∃ r : Int, e = .returned (.int .i64 r) ∧ w' = w ∧ Hid ((0 ≤ r) ↔ ∃ i, i < n ∧ b = P i) := by
  have HQ : Hid (∀ i, i < n → (binOp .eql 34 (.pointer (some ⟨b, 0, none⟩)) (.pointer (some ⟨P i, 0, none⟩))).run Try.prog w = .ok (.bool (b == P i)) w) := fun i hi => run_eql_col w b (P i) hb (hP i hi)
  clear hb hP
  go_enter Try.func39, Try.ntmps39
  go_wp2
  go_loop [8] (fun i => ∃ k : Nat, k ≤ n ∧ i = .int .i64 k ∧ Hid (∀ i, i < k → b ≠ P i)) (fun i => n - (intOf i).toNat)
  case atStart => exact ⟨0, Nat.zero_le _, rfl, fun i hi => absurd hi (by omega)⟩
  case round =>
    obtain ⟨k, hk, rfl, hno⟩ := hrel
    by_cases hlt : k < n
    · obtain rfl := ha (by omega)
      have hck := hc k hlt
      have hq := unhide HQ k hlt
      clear ha
      cases he : (b == P k) with
      | true =>
        rw [he] at hq
        have HE := hide he
        clear he
        go_wp2
        go_ret
        exact ⟨_, rfl, rfl, ⟨fun _ => ⟨k, hlt, by simpa using unhide HE⟩, fun _ => by omega⟩⟩
      | false =>
        rw [he] at hq
        have HE := hide he
        clear he
        go_wp2
        go_round
        case rel => exact ⟨k + 1, by omega, by go_num, fun i hi => by
          by_cases e : i = k
          · subst e; simpa using unhide HE
          · exact hno i (by omega)⟩
        case measure => simp [intOf]; omega
    · go_wp2
      go_ret
      exact ⟨_, rfl, rfl, ⟨fun h => by omega, fun ⟨i, hi, e⟩ => absurd e (hno i (by omega))⟩⟩

def memB (P : Nat → Nat) (n b : Nat) : Bool := (List.range n).any fun i => b == P i
theorem memB_iff (P : Nat → Nat) (n b : Nat) : memB P n b = true ↔ ∃ i, i < n ∧ b = P i := by simp [memB, List.any_eq_true]

set_option maxRecDepth 100000 in
set_option maxHeartbeats 400000 in
theorem contains_any (P : Nat → Nat) (b : Nat) (a : Option Addr) (n c g off : Nat) (w : World) (hn : n ≤ 9223372036854775806) (ha : 0 < n → a = some ⟨g, off, none⟩)
    (hc : ∀ i, i < n → w.cell? ⟨g, off + i, none⟩ = some (.pointer (some ⟨P i, 0, none⟩))) (hb : PB w b) (hP : ∀ i, i < n → PB w (P i)) :
    Calls Try.prog 38 #[.slice a n c, .pointer (some ⟨b, 0, none⟩)] w fun e w' => e = .returned (.bool (memB P n b)) ∧ w' = w := by
  go_enter Try.func38, Try.ntmps38
  go_wp2_with fail
  refine (index_any P b a n c g off w hn ha hc hb hP).mono ?_
  rintro e w' ⟨r, rfl, rfl, hr⟩
  have hm := memB_iff P n b
  by_cases h : 0 ≤ r
  · have HM := hide (hm.2 ((unhide hr).1 h))
    clear hm hr
    go_wp2_with fail
    go_ret
    exact ⟨ret_bool (unhide HM).symm, rfl⟩
  · have hf : memB P n b = false := by
      cases e : memB P n b with
      | false => rfl
      | true => exact absurd ((unhide hr).2 (hm.1 e)) h
    have HM := hide hf
    clear hm hr hf
    go_wp2_with fail
    go_ret
    exact ⟨ret_bool (by rw [unhide HM]; simpa using h), rfl⟩

/-- a table as it lies in w, its block tb -/
structure Table (w : World) (tb M : Nat) (ov kv pv : Value) (S T : Nat → ByteArray) (Z : Nat → Nat → Int) (L : Nat → Nat) (cols kbs : List Nat) (n m : Nat) : Prop where
  hT : w.heap[tb]? = some (.cells (Tc M ov kv pv) 57 (0, 0))
  oown : w.ownsRow 0 34 1 ov n (cols.map ptrTo)
  kown : w.ownsRow 0 62 1 kv m (kbs.map ptrTo)
  keys : ∀ i, i < m → KeyAt w 0 (kbs.getD i 0) (T i) (colsOf cols (Z i) (L i))
  clen : cols.length = n
  klen : kbs.length = m
  map : ∃ D : DataW Unit, w.ownsMap Try.prog 9 ptrElem M n D ∧ MapIs D S cols n
  inc : cols.Pairwise (· < ·)
  blk : ∀ c ∈ cols, PB w c

theorem PB.kept {w w' : World} {b : Nat} (h : PB w b) (hb : Below w.heap.size w w') : PB w' b := by
  obtain ⟨cs, t, h⟩ := h
  exact ⟨cs, t, by rw [hb.block _ (lt_of_block h)]; exact h⟩
theorem PB.lt {w : World} {b : Nat} (h : PB w b) : b < w.heap.size := by
  obtain ⟨cs, t, h⟩ := h
  exact lt_of_block h

theorem Table.kept {w w' : World} {tb M : Nat} {ov kv pv : Value} {S T : Nat → ByteArray} {Z : Nat → Nat → Int} {L : Nat → Nat} {cols kbs : List Nat} {n m : Nat} (h : Table w tb M ov kv pv S T Z L cols kbs n m) (hb : Below w.heap.size w w') : Table w' tb M ov kv pv S T Z L cols kbs n m where
  hT := by rw [hb.block _ (lt_of_block h.hT)]; exact h.hT
  oown := row_kept h.oown (Nat.le_refl _) fun b cs hx _ => hb.block b (lt_of_block hx)
  kown := row_kept h.kown (Nat.le_refl _) fun b cs hx _ => hb.block b (lt_of_block hx)
  keys := fun i hi => keyAt_kept (h.keys i hi) (Nat.le_refl _) fun b cs t hx _ => hb.block b (lt_of_block hx)
  clen := h.clen
  klen := h.klen
  map := by
    obtain ⟨D, hm, hD⟩ := h.map
    exact ⟨D, hm.kept (row := none) ⟨hb.os, hb.tape, hb.output, hb.size, fun k hk _ => hb.block k hk⟩ (by simp), hD⟩
  inc := h.inc
  blk := fun c hc => (h.blk c hc).kept hb

theorem table_of_new {w w' : World} {S T : Nat → ByteArray} {Z : Nat → Nat → Int} {L : Nat → Nat} {n m : Nat} {e : Ending} (h : NewPost w S T Z L n m e w') :
    e = .returned (ptrTo (w.heap.size + 1)) ∧ Below w.heap.size w w' ∧ ∃ ov cols kv kbs, Table w' (w.heap.size + 1) w.heap.size ov kv nilS S T Z L cols kbs n m := by
  obtain ⟨he, w1, ov, cols, kv, kbs, h1, h2⟩ := h
  have s1 := h1.sz
  refine ⟨he, h2.bel, ov, cols, kv, kbs, ⟨h2.hT, ?_, row_kept h2.kown (Nat.zero_le _) fun _ _ _ _ => rfl, ?_, h1.len, h2.len, ?_, h1.inc, ?_⟩⟩
  · exact row_kept h1.own (Nat.zero_le _) fun b cs hx hb => h2.old b (lt_of_block hx) (by omega)
  · exact fun i hi => keyAt_kept (h2.keys i hi) (Nat.zero_le _) fun _ _ _ _ _ => rfl
  · obtain ⟨D, hm, hD⟩ := h1.map
    refine ⟨D, ?_, hD⟩
    have hl := hm.lt
    obtain ⟨es, clock, hb, F, hs, hDD⟩ := hm
    exact ⟨es, clock, (h2.old _ hl (by omega)).trans hb, F, hs, hDD⟩
  · intro c hc
    obtain ⟨cs, hx⟩ := h1.blk c hc
    exact ⟨cs, 61, (h2.old c (h1.lt c hc).2 (by have := (h1.lt c hc).1; omega)).trans hx⟩

/-- the columns of the primary keys among the first k keys, as blocks -/
def pkB (T : Nat → ByteArray) (Z : Nat → Nat → Int) (L : Nat → Nat) (cols : List Nat) : Nat → List Nat
  | 0 => []
  | k + 1 => pkB T Z L cols k ++ (if isPK (T k) then (List.range (L k)).map fun r => cols.getD (Z k r).toNat 0 else [])
theorem pkB_hit {T : Nat → ByteArray} {Z : Nat → Nat → Int} {L : Nat → Nat} {cols : List Nat} {k : Nat} (h : isPK (T k) = true) : (pkB T Z L cols (k + 1)).map ptrTo = (pkB T Z L cols k).map ptrTo ++ colsOf cols (Z k) (L k) := by
  simp [pkB, h, colsOf, Function.comp_def]
theorem pkB_miss {T : Nat → ByteArray} {Z : Nat → Nat → Int} {L : Nat → Nat} {cols : List Nat} {k : Nat} (h : isPK (T k) = false) : pkB T Z L cols (k + 1) = pkB T Z L cols k := by
  simp [pkB, h]
theorem pkB_len {T : Nat → ByteArray} {Z : Nat → Nat → Int} {L : Nat → Nat} {cols : List Nat} {m : Nat} (hL : ∀ i, i < m → L i ≤ 1048576) : ∀ k, k ≤ m → (pkB T Z L cols k).length ≤ 1048576 * k
  | 0, _ => by simp [pkB]
  | k + 1, h => by
    have ih := pkB_len (T := T) (Z := Z) (cols := cols) hL k (by omega)
    have := hL k (by omega)
    simp only [pkB, List.length_append]
    split
    · simp only [List.length_map, List.length_range]; omega
    · simp only [List.length_nil]; omega
end Go.Proofs.Qxb6613626a
