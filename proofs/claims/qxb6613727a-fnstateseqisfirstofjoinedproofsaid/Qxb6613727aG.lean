import Derived.Test.Qxb6613727aF
namespace Go.Proofs.Qxb6613727a
open Go.RowKit

def joinE {α : Type} (n : Nat) (A B : Nat → α) (i : Nat) : α := if i < n then A i else B (i - n)
theorem flat_congr (A B : Nat → List Value) (n : Nat) (h : ∀ i, i < n → A i = B i) : flat A n = flat B n := by
  induction n with
  | zero => rfl
  | succ k ih => rw [flat_succ, flat_succ, ih (fun i hi => h i (by omega)), h k (by omega)]
theorem flat_join (A B : Nat → List Value) (n m : Nat) : flat (joinE n A B) (n + m) = flat A n ++ flat B m := by
  induction m with
  | zero => simpa [flat] using flat_congr (joinE n A B) A n (fun i hi => by simp [joinE, hi])
  | succ k ih =>
    rw [show n + (k + 1) = n + k + 1 by omega, flat_succ, ih, flat_succ, List.append_assoc]
    congr 2
    simp only [joinE]
    rw [if_neg (by omega)]
    congr 1
    omega

theorem ck_join {w w1 : World} {a0 a1 : Option Addr} {n0 b0 f0 n1 b1 f1 : Nat} {E0 E1 : Nat → List Value} {S0 S1 : Nat → Int} (h0 : CK w a0 n0 b0 f0 E0 S0) (h1 : CK w a1 n1 b1 f1 E1 S1) (hn0 : (n0 : Int) ≤ 65536) (hn1 : (n1 : Int) ≤ 65536)
    {v : Value} {B : Nat} (hv : w1.ownsRow B 44 131 v (n0 + n1) (flat E0 n0 ++ flat E1 n1)) : ∃ a c g, v = .slice a (n0 + n1) c ∧ CK w1 a (n0 + n1) g 0 (joinE n0 E0 E1) (joinE n0 S0 S1) := by
  have part : ∀ {p : Nat → List Value → Prop}, (∀ i, i < n0 → p i (E0 i)) → (∀ i, i < n1 → p (n0 + i) (E1 i)) → ∀ i, i < n0 + n1 → p i (joinE n0 E0 E1 i) := by
    intro p p0 p1 i hi
    unfold joinE
    by_cases h : i < n0
    · rw [if_pos h]; exact p0 i h
    · rw [if_neg h]
      have := p1 (i - n0) (by omega)
      rwa [show n0 + (i - n0) = i by omega] at this
  have hlen : ∀ i, i < n0 + n1 → (joinE n0 E0 E1 i).length = 131 := part (p := fun _ l => l.length = 131) h0.len h1.len
  have hseq : ∀ i, i < n0 + n1 → (joinE n0 E0 E1 i)[1]? = some (.int .u64 (joinE n0 S0 S1 i)) := by
    intro i hi
    unfold joinE
    by_cases h : i < n0
    · rw [if_pos h, if_pos h]; exact h0.seq i h
    · rw [if_neg h, if_neg h]; exact h1.seq (i - n0) (by omega)
  rcases hv.2 with ⟨rfl, hz⟩ | ⟨g, cap, cur, rfl, _, hg, _, _, hsz, htk⟩
  · rw [hz]
    exact ⟨none, 0, 0, rfl, ⟨fun _ => rfl, by omega, fun h => by omega, fun h => by omega, fun i hi => by omega, fun i hi => by omega, fun i hi => by omega, fun i hi => by omega, fun i hi => by omega, fun i hi => by omega⟩⟩
  · refine ⟨_, cap, g, rfl, ⟨fun h => (by cases h), by omega, fun _ => rfl, fun _ => lt_of_block hg, fun i hi j u hu => ?_, hlen, part (p := fun _ l => ∀ v ∈ l, v.oneCell' = true) h0.one h1.one, part (p := fun _ l => ∃ r, l[0]? = some (.int .u32 r)) h0.rep h1.rep, hseq, part (p := fun _ l => ∃ (x c : Nat) (a : Option Addr), l[130]? = some (.slice a x c) ∧ (x : Int) ≤ 9223372036854775807) h0.sig h1.sig⟩⟩
    have hj : j < 131 := by have := (List.getElem?_eq_some_iff.1 hu).1; rw [hlen i hi] at this; exact this
    have hle := Nat.mul_le_mul_right 131 (show i + 1 ≤ n0 + n1 by omega)
    rw [cell_of_row _ _ _ _ _ _ hg, Nat.zero_add, ← hu, ← flat_get (joinE n0 E0 E1) (n0 + n1) hlen i j hi hj, flat_join, ← htk, List.getElem?_take, if_pos (by omega)]
    simp

theorem range_of_heap {w : World} {b : Nat} {A : List Value} {t : TypeId} {fr : Nat × Nat} (h : w.heap[b]? = some (.cells A.toArray t fr)) : w.rangeAt b 0 A := by
  intro j v hv
  rw [Nat.zero_add, cell_of_row _ _ _ _ _ _ h]
  simpa using hv
def S39 (p q : Value) (x : Int) : List Value := [p, q, .slice none 0 0, .slice none 0 0, .slice none 0 0, .int .u64 0, .int .u64 0, .slice none 0 0, .slice none 0 0, .slice none 0 0, .int .u64 x]
abbrev nilS : Value := .slice none 0 0
/-- what the first element says, carried into a later world -/
theorem first_kept {w w' : World} {a : Option Addr} {n : Nat} {s : Int} (hb : Below w.heap.size w w') (h : 0 < n → ∃ g, a = some ⟨g, 0, none⟩ ∧ g < w.heap.size ∧ w.cell? ⟨g, 1, none⟩ = some (.int .u64 s)) :
    0 < n → ∃ g, a = some ⟨g, 0, none⟩ ∧ g < w'.heap.size ∧ w'.cell? ⟨g, 1, none⟩ = some (.int .u64 s) := fun hn => by
  obtain ⟨g, h1, h2, h3⟩ := h hn
  exact ⟨g, h1, Nat.lt_of_lt_of_le h2 hb.size, (hb.cell (p := ⟨g, 1, none⟩) h2).trans h3⟩
theorem Try.size39 : (Try.prog.info? 39).map (·.size) = some 11 := by kernel_rfl
def LPost (w : World) (e : Ending) (w' : World) : Prop := e = .returned (.bool true) ∧ Below w.heap.size w w'
theorem seqVal_zero (s : Int) : seqVal 0 s = 0 := rfl
theorem seqVal_pos {n : Nat} (h : 0 < n) (s : Int) : seqVal n s = s := by simp [seqVal]; omega

set_option maxRecDepth 100000 in
set_option maxHeartbeats 3200000 in
theorem law_any (a0 a1 a3 : Option Addr) (n0 c0 b0 f0 n1 c1 b1 f1 n3 c3 : Nat) (x : Int) (E0 E1 : Nat → List Value) (S0 S1 : Nat → Int) (w : World) (h0 : CK w a0 n0 b0 f0 E0 S0) (h1 : CK w a1 n1 b1 f1 E1 S1) :
    Calls Try.prog 3 #[.slice a0 n0 c0, .slice a1 n1 c1, .int .u64 x, .slice a3 n3 c3] w (LPost w) := by
  have H0 := hide h0
  have H1 := hide h1
  have HZ := hide (zzBytes_any a0 a1 a3 n0 c0 b0 f0 n1 c1 b1 f1 n3 c3 (.int .u64 x) E0 E1 S0 S1 w h0 h1)
  have HP := hide (over_any a0 a1 n0 c0 b0 f0 n1 c1 b1 f1 E0 E1 S0 S1 n3 w h0 h1)
  clear h0 h1
  go_enter Try.func3, Try.ntmps3
  go_wp2_with fail
  go_at_call 4
  refine (unhide HZ).mono ?_
  rintro e wz ⟨bz, rfl, hq⟩
  obtain rfl := hq.symm
  clear hq
  cases bz
  · go_wp2
    go_ret
    exact ⟨rfl, Below.refl _ _⟩
  by_cases g0 : (65536 : Int) < (n0 : Int)
  · go_wp2
    go_ret
    exact ⟨rfl, Below.refl _ _⟩
  by_cases g1 : (65536 : Int) < (n1 : Int)
  · go_wp2
    go_ret
    exact ⟨rfl, Below.refl _ _⟩
  by_cases g3 : (1048576 : Int) < (n3 : Int)
  · go_wp2
    go_ret
    exact ⟨rfl, Below.refl _ _⟩
  go_wp2_with fail
  go_at_call 5
  refine (unhide HP).mono ?_
  rintro e wz ⟨bz, rfl, hq⟩
  obtain rfl := hq.symm
  clear hq
  cases bz
  rotate_left
  · go_wp2
    go_ret
    exact ⟨rfl, Below.refl _ _⟩
  go_wp2_with fail
  go_at_call 7
  refine (join_any a0 a1 n0 c0 b0 f0 n1 c1 b1 f1 E0 E1 S0 S1 w (unhide H0) (unhide H1) (by omega) (by omega)).mono ?_
  rintro e w1 ⟨v, rfl, o1, B1⟩
  obtain ⟨aJ, cJ, gJ, rfl, kJ⟩ := ck_join (unhide H0) (unhide H1) (by omega) (by omega) o1
  have HT := hide (to_any aJ (n0 + n1) cJ gJ 0 _ _ w1 kJ (by omega))
  have HB1 := hide B1
  clear o1 kJ B1 HZ HP
  go_wp2_with fail
  go_at_call 6
  refine (unhide HT).mono ?_
  rintro e w2 ⟨aT, cT, rfl, B2, F2⟩
  have HF2 := hide F2
  have HB2 := hide ((unhide HB1).trans (B2.mono (unhide HB1).size))
  clear F2 B2 HT HB1
  have n1w : Below w2.heap.size w2 (w2.alloc (.cells (S39 (.slice aT (n0 + n1) cT) (.slice a3 n3 c3) x).toArray 39)) := (Below.refl _ _).alloc (Nat.le_refl _) _
  have HT2 := hide (to_any a0 n0 c0 b0 f0 E0 S0 (w2.alloc (.cells (S39 (.slice aT (n0 + n1) cT) (.slice a3 n3 c3) x).toArray 39)) ((unhide H0).kept ((unhide HB2).alloc (unhide HB2).size _) (Nat.le_refl _)) (by omega))
  have N1 := hide n1w
  clear n1w
  go_wp2_with fail
  go_at_call 6
  refine (unhide HT2).mono ?_
  rintro e w4 ⟨aA, cA, rfl, B4, F4⟩
  have HF4 := hide F4
  have N4 := hide ((unhide N1).trans (B4.mono (by simp)))
  have P9 := hide ((B4.block w2.heap.size (by simp)).trans (heap_alloc_new w2 (.cells (S39 (.slice aT (n0 + n1) cT) (.slice a3 n3 c3) x).toArray 39)))
  have HB4 := hide ((unhide HB2).trans ((unhide N4).mono (unhide HB2).size))
  clear F4 B4 HT2 N1
  have HT3 := hide (to_any a1 n1 c1 b1 f1 E1 S1 (w4.alloc (.cells (S39 (.slice aA n0 cA) nilS 0).toArray 39)) ((unhide H1).kept ((unhide HB4).alloc (unhide HB4).size _) (Nat.le_refl _)) (by omega))
  have n5 : Below w4.heap.size w4 (w4.alloc (.cells (S39 (.slice aA n0 cA) nilS 0).toArray 39)) := (Below.refl _ _).alloc (Nat.le_refl _) _
  have N5 := hide n5
  clear n5
  go_wp2_with fail
  go_at_call 6
  refine (unhide HT3).mono ?_
  rintro e w6 ⟨aB, cB, rfl, B6, F6⟩
  have HF6 := hide F6
  have N6 := hide ((unhide N5).trans (B6.mono (by simp)))
  have P10 := hide ((B6.block w4.heap.size (by simp)).trans (heap_alloc_new w4 (.cells (S39 (.slice aA n0 cA) nilS 0).toArray 39)))
  clear F6 B6 HT3 N5
  -- the three states
  have n7 : Below w6.heap.size w6 (w6.alloc (.cells (S39 (.slice aB n1 cB) nilS 0).toArray 39)) := (Below.refl _ _).alloc (Nat.le_refl _) _
  have r9 : (w6.alloc (.cells (S39 (.slice aB n1 cB) nilS 0).toArray 39)).heap[w2.heap.size]? = some (.cells (S39 (.slice aT (n0 + n1) cT) (.slice a3 n3 c3) x).toArray 39 (0, 0)) :=
    (n7.block _ (Nat.lt_of_lt_of_le (lt_of_block (unhide P9)) (unhide N6).size)).trans (((unhide N6).block _ (lt_of_block (unhide P9))).trans (unhide P9))
  have r10 : (w6.alloc (.cells (S39 (.slice aB n1 cB) nilS 0).toArray 39)).heap[w4.heap.size]? = some (.cells (S39 (.slice aA n0 cA) nilS 0).toArray 39 (0, 0)) := (n7.block _ (lt_of_block (unhide P10))).trans (unhide P10)
  have r11 : (w6.alloc (.cells (S39 (.slice aB n1 cB) nilS 0).toArray 39)).heap[w6.heap.size]? = some (.cells (S39 (.slice aB n1 cB) nilS 0).toArray 39 (0, 0)) := heap_alloc_new w6 _
  have t46 := (unhide N6).trans (n7.mono (unhide N6).size)
  have t26 := (unhide N4).trans (t46.mono (unhide N4).size)
  obtain ⟨s12, hs12⟩ : ∃ s, seqVal (n0 + n1) (joinE n0 S0 S1 0) = s := ⟨_, rfl⟩
  obtain ⟨s13, hs13⟩ : ∃ s, seqVal n0 (S0 0) = s := ⟨_, rfl⟩
  obtain ⟨s14, hs14⟩ : ∃ s, seqVal n1 (S1 0) = s := ⟨_, rfl⟩
  have q1 := stateSeq_any (S39 (.slice aT (n0 + n1) cT) (.slice a3 n3 c3) x).toArray aT (n0 + n1) cT _ _ rfl (first_kept t26 (unhide HF2))
  have q2 : ∀ wx, Below (w6.alloc (.cells (S39 (.slice aB n1 cB) nilS 0).toArray 39)).heap.size (w6.alloc (.cells (S39 (.slice aB n1 cB) nilS 0).toArray 39)) wx → _ := fun wx hx => stateSeq_any (S39 (.slice aA n0 cA) nilS 0).toArray aA n0 cA (S0 0) wx rfl (first_kept (t46.trans (hx.mono t46.size)) (unhide HF4))
  have q3 : ∀ wx, Below (w6.alloc (.cells (S39 (.slice aB n1 cB) nilS 0).toArray 39)).heap.size (w6.alloc (.cells (S39 (.slice aB n1 cB) nilS 0).toArray 39)) wx → _ := fun wx hx => stateSeq_any (S39 (.slice aB n1 cB) nilS 0).toArray aB n1 cB (S1 0) wx rfl (first_kept (n7.trans (hx.mono n7.size)) (unhide HF6))
  rw [hs12] at q1
  rw [hs13] at q2
  rw [hs14] at q3
  have Q1 := hide q1
  have Q2 := hide q2
  have Q3 := hide q3
  have R := hide (And.intro r9 (And.intro r10 r11))
  have HBE := hide ((unhide HB4).trans (t46.mono (unhide HB4).size))
  have HS := hide (And.intro hs12 (And.intro hs13 hs14))
  clear q1 q2 q3 r9 r10 r11 n7 t46 t26 hs12 hs13 hs14 P9 P10 N4 N6 HF2 HF4 HF6 HB2 HB4
  go_wp2_with (refine wpList_load_mid rfl 39 (.tmp 9) rfl w2.heap.size 0 (by rfl) (S39 (.slice aT (n0 + n1) cT) (.slice a3 n3 c3) x) _ (range_of_heap (unhide R).1) Try.underlying39 rfl Try.size39 ?_)
  go_at_call 8
  refine (unhide Q1).mono ?_
  rintro e w8 ⟨rfl, hw8⟩
  have b8 : Below (w6.alloc (.cells (S39 (.slice aB n1 cB) nilS 0).toArray 39)).heap.size (w6.alloc (.cells (S39 (.slice aB n1 cB) nilS 0).toArray 39)) w8 := by rw [hw8]; exact (Below.refl _ _).alloc (Nat.le_refl _) _
  have M8 := hide b8
  have R8 := hide (And.intro ((b8.block _ (lt_of_block (unhide R).2.1)).trans (unhide R).2.1) ((b8.block _ (lt_of_block (unhide R).2.2)).trans (unhide R).2.2))
  clear b8 hw8 Q1 R
  go_wp2_with (refine wpList_load_mid rfl 39 (.tmp 10) rfl w4.heap.size 0 (by rfl) (S39 (.slice aA n0 cA) nilS 0) _ (range_of_heap (unhide R8).1) Try.underlying39 rfl Try.size39 ?_)
  go_at_call 8
  refine (unhide Q2 w8 (unhide M8)).mono ?_
  rintro e w9 ⟨rfl, hw9⟩
  have b9 : Below w8.heap.size w8 w9 := by rw [hw9]; exact (Below.refl _ _).alloc (Nat.le_refl _) _
  have M9 := hide ((unhide M8).trans (b9.mono (unhide M8).size))
  have R9 := hide ((b9.block _ (lt_of_block (unhide R8).2)).trans (unhide R8).2)
  clear b9 hw9 Q2 R8 M8
  go_wp2_with (refine wpList_load_mid rfl 39 (.tmp 11) rfl w6.heap.size 0 (by rfl) (S39 (.slice aB n1 cB) nilS 0) _ (range_of_heap (unhide R9)) Try.underlying39 rfl Try.size39 ?_)
  go_at_call 8
  refine (unhide Q3 w9 (unhide M9)).mono ?_
  rintro e w10 ⟨rfl, hw10⟩
  have b10 : Below w9.heap.size w9 w10 := by rw [hw10]; exact (Below.refl _ _).alloc (Nat.le_refl _) _
  have HE := hide ((unhide HBE).trans (((unhide M9).trans (b10.mono (unhide M9).size)).mono (unhide HBE).size))
  clear b10 hw10 Q3 R9 M9 HBE
  by_cases p0 : 0 < n0
  · have e12 : s12 = S0 0 := by rw [← (unhide HS).1, seqVal_pos (by omega)]; simp [joinE, p0]
    have e13 : s13 = S0 0 := by rw [← (unhide HS).2.1, seqVal_pos p0]
    subst e12
    have z0 : w10.cell? ⟨b0, f0 + 1, none⟩ = some (.int .u64 (S0 0)) := by
      have := ((unhide H0).kept (unhide HE) (Nat.le_refl _)).rng 0 p0 1 _ ((unhide H0).seq 0 p0)
      simpa using this
    obtain rfl := (unhide H0).ad p0
    have p0' : (0 : Int) < (n0 : Int) := by omega
    clear HS
    subst e13
    go_wp2
    go_ret
    exact ⟨rfl, unhide HE⟩
  · obtain rfl : n0 = 0 := by omega
    by_cases p1 : 0 < n1
    · have e12 : s12 = S1 0 := by rw [← (unhide HS).1, seqVal_pos (by omega)]; simp [joinE]
      have e14 : s14 = S1 0 := by rw [← (unhide HS).2.2, seqVal_pos p1]
      subst e12
      have z0 : w10.cell? ⟨b1, f1 + 1, none⟩ = some (.int .u64 (S1 0)) := by
        have := ((unhide H1).kept (unhide HE) (Nat.le_refl _)).rng 0 p1 1 _ ((unhide H1).seq 0 p1)
        simpa using this
      obtain rfl := (unhide H1).ad p1
      have p1' : (0 : Int) < (n1 : Int) := by omega
      clear HS
      subst e14
      go_wp2
      go_ret
      exact ⟨rfl, unhide HE⟩
    · obtain rfl : n1 = 0 := by omega
      have e12 : s12 = 0 := by rw [← (unhide HS).1]; rfl
      have e13 : s13 = 0 := by rw [← (unhide HS).2.1]; rfl
      have e14 : s14 = 0 := by rw [← (unhide HS).2.2]; rfl
      clear HS
      subst e12 e13 e14
      go_wp2
      go_ret
      exact ⟨rfl, unhide HE⟩
end Go.Proofs.Qxb6613727a
