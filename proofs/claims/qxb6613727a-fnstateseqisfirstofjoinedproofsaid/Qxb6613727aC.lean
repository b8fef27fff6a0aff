import Derived.Test.Qxb6613727aA
import Derived.Test.Qxb6613727aB
import Derived.Laws.AppendOwn
import Derived.OwnWalk
import Derived.Deep.AppendLies
import Derived.Below
namespace Go.Proofs.Qxb6613727a
open Go.RowKit

def flat (E : Nat → List Value) (n : Nat) : List Value := (List.range n).flatMap E
theorem flat_succ (E : Nat → List Value) (k : Nat) : flat E (k + 1) = flat E k ++ E k := by simp [flat, List.range_succ]
theorem flat_len (E : Nat → List Value) : ∀ n, (∀ i, i < n → (E i).length = 131) → (flat E n).length = n * 131
  | 0, _ => rfl
  | n + 1, h => by rw [flat_succ, List.length_append, flat_len E n (fun i hi => h i (by omega)), h n (by omega)]; omega
theorem flat_get (E : Nat → List Value) : ∀ n, (∀ i, i < n → (E i).length = 131) → ∀ i j, i < n → j < 131 → (flat E n)[i * 131 + j]? = (E i)[j]?
  | 0, _, i, j, hi, _ => by omega
  | n + 1, h, i, j, hi, hj => by
    have hl := flat_len E n (fun i hi => h i (by omega))
    rw [flat_succ]
    by_cases e : i < n
    · have : i * 131 + 131 ≤ n * 131 := by have := Nat.mul_le_mul_right 131 (show i + 1 ≤ n by omega); omega
      rw [List.getElem?_append_left (by omega)]
      exact flat_get E n (fun i hi => h i (by omega)) i j e hj
    · obtain rfl : i = n := by omega
      rw [List.getElem?_append_right (by omega), hl]
      congr 1; omega

theorem CK.kept {w w' : World} {a : Option Addr} {n b off : Nat} {EC : Nat → List Value} {S : Nat → Int} (h : CK w a n b off EC S) {B : Nat} (hb : Below B w w') (hB : w.heap.size ≤ B) : CK w' a n b off EC S :=
  ⟨h.nil, h.mx, h.ad, fun h0 => Nat.lt_of_lt_of_le (h.lt h0) hb.size, fun i hi j v hv => (hb.cell (p := ⟨b, off + i * 131 + j, none⟩) (Nat.lt_of_lt_of_le (h.lt (by omega)) hB)).trans (h.rng i hi j v hv), h.len, h.one, h.rep, h.seq, h.sig⟩

def JPost (w : World) (n : Nat) (xs : List Value) (e : Ending) (w' : World) : Prop := ∃ v, e = .returned v ∧ w'.ownsRow w.heap.size 44 131 v n xs ∧ Below w.heap.size w w'

theorem zero44 : ∃ i z, Try.prog.info? 44 = some i ∧ i.zero = some z ∧ i.size = 131 ∧ i.bytes = 168 ∧ z.cells.size = 131 := by
  have h : (Try.prog.info? 44).map (fun i => (i.size, i.bytes, i.zero.map (fun z => z.cells.size))) = some (131, 168, some 131) := by kernel_rfl
  obtain ⟨i, h1, h2⟩ := Option.map_eq_some_iff.1 h
  simp only [Prod.mk.injEq] at h2
  obtain ⟨z, h3, h4⟩ := Option.map_eq_some_iff.1 h2.2.2
  exact ⟨i, z, h1, h3, h2.1, h2.2.1, h4⟩

theorem wpList_slice1 {ops : Array Oper} {rest : List Oper} {o : Oper} {a : Act} {w : World} {Q : Exit → Act → World → Prop} (hgd : o.guard = none) (x : Operand) (ho : o.op = .buildSlice 22 1 #[(0, x)])
    (A : List Value) (hA : A.length = 131) (hx : a.eval x = .agg A.toArray) (h : wpList Try.prog ops Q rest (a.put o.dst (.slice (some ⟨w.heap.size, 0, none⟩) 1 1)) (w.alloc (.cells A.toArray 44))) : wpList Try.prog ops Q (o :: rest) a w := by
  refine wpList_plain hgd fun K hK => ?_
  have hr := run_slice1 A hA w
  unfold Oper.wp execOp
  simp only [ho, List.map_toArray, List.map_cons, List.map_nil, hx, Sem.run_bind, hr, Result.andThen_ok]
  exact hK _ _ h

set_option maxRecDepth 100000 in
set_option maxHeartbeats 800000 in
theorem join_any (a0 a1 : Option Addr) (n0 c0 b0 f0 n1 c1 b1 f1 : Nat) (E0 E1 : Nat → List Value) (S0 S1 : Nat → Int) (w : World) (h0 : CK w a0 n0 b0 f0 E0 S0) (h1 : CK w a1 n1 b1 f1 E1 S1) (hn0 : (n0 : Int) ≤ 65536) (hn1 : (n1 : Int) ≤ 65536) :
    Calls Try.prog 7 #[.slice a0 n0 c0, .slice a1 n1 c1] w (JPost w (n0 + n1) (flat E0 n0 ++ flat E1 n1)) := by
  have H0 := hide h0
  have H1 := hide h1
  clear h0 h1
  obtain ⟨i44, z44, hi, hz, hs, hby, hzs⟩ := zero44
  obtain ⟨wM, hmk, hown, hgr⟩ := run_make_own (P := Try.prog) w w.heap.size 22 44 i44 z44 131 Try.underlying22 hi hz hs .i64 .i64 (n0 + n1) (by rw [hby]; omega) (by unfold maxLen; omega) (Nat.le_refl _)
  rw [Int.natCast_add] at hmk
  have HI := hide (And.intro hi (And.intro hz (And.intro hs (And.intro hby hzs))))
  have HO := hide (And.intro hown ((Below.refl _ w).grown hgr (Nat.le_refl _) (fun k hk => by cases hk)))
  clear hi hz hs hby hzs hown hgr
  go_enter Try.func7, Try.ntmps7
  go_wp2_with fail
  go_loopw [5, 6] (fun c i wr => ∃ (k : Nat) (v : Value), k ≤ n0 ∧ i = .int .i64 k ∧ v = c ∧ Hid (wr.ownsRow w.heap.size 44 131 v (k) (flat E0 k) ∧ Below w.heap.size w wr)) (fun _ i _ => n0 - (intOf i).toNat)
  case atStart => exact ⟨0, _, by omega, rfl, rfl, HO⟩
  case round =>
    obtain ⟨k, v, hk, rfl, rfl, HR⟩ := hrel
    by_cases hlt : k < n0
    · have hbs := hide ((unhide H0).len k hlt)
      have HC := hide (((unhide H0).kept (unhide HR).2 (Nat.le_refl _)).rng k hlt)
      have HL : Hid ((Try.prog.info? 44).map (·.size) = some (E0 k).length) := by { rw [(unhide H0).len k hlt]; exact Try.size44 }
      have hsz := (unhide HR).2.size
      obtain rfl := (unhide H0).ad (by omega)
      go_wp2_with (first | (refine wpList_load_mid rfl 44 (.tmp 23) rfl b0 (f0 + k * 131) (by rfl) (E0 k) _ (unhide HC) Try.underlying44 rfl (unhide HL) ?_) | (refine wpList_slice1 rfl (.tmp 24) rfl (E0 k) (unhide hbs) (by rfl) ?_) | (at_builtin; go_must (refine wpList_append_own _ rfl _ _ 22 rfl w.heap.size 44 i44 z44 131 168 Try.underlying22 (unhide HI).1 (unhide HI).2.1 (unhide HI).2.2.1 (unhide HI).2.2.2.1 (unhide HI).2.2.2.2 (by decide) v (k) _ (by rfl) ((unhide HR).1.alloc _) ⟨wr.heap.size, 0, none⟩ 1 1 (E0 k) (by rfl) (by rw [(unhide H0).len k hlt]) (World.news_of_block (cs := (E0 k).toArray) (t := 44) (fr := (0, 0)) (heap_alloc_new wr _)) ((unhide H0).one k hlt) (by unfold maxLen; omega) (by omega) (by simp; omega) ?_); intro v' w1 hown' hgrow _; have HO1 := hide hown'; clear hown'; have HG1 := hide hgrow; clear hgrow))
      go_roundw
      case rel => exact ⟨k + 1, v', by omega, by go_num, rfl, by
        have hx := unhide HO1
        rw [flat_succ]
        exact ⟨hx, ((unhide HR).2.alloc hsz _).grown (unhide HG1) (by simp; omega) fun j hj => ((unhide HR).1.lt j hj).1⟩⟩
      case measure => simp [intOf]; omega
    · obtain rfl : n0 = k := by omega
      clear HO hmk
      go_wp2_with fail
      go_loopw [5, 7] (fun c i wr => ∃ (k : Nat) (v : Value), k ≤ n1 ∧ i = .int .i64 k ∧ v = c ∧ Hid (wr.ownsRow w.heap.size 44 131 v (n0 + k) (flat E0 n0 ++ flat E1 k) ∧ Below w.heap.size w wr)) (fun _ i _ => n1 - (intOf i).toNat)
      case atStart => exact ⟨0, _, by omega, rfl, rfl, by simpa [flat] using HR⟩
      case round =>
        obtain ⟨k, v, hk, rfl, rfl, HR⟩ := hrel
        by_cases hlt : k < n1
        · have hbs := hide ((unhide H1).len k hlt)
          have HC := hide (((unhide H1).kept (unhide HR).2 (Nat.le_refl _)).rng k hlt)
          have HL : Hid ((Try.prog.info? 44).map (·.size) = some (E1 k).length) := by { rw [(unhide H1).len k hlt]; exact Try.size44 }
          have hsz := (unhide HR).2.size
          obtain rfl := (unhide H1).ad (by omega)
          go_wp2_with (first | (refine wpList_load_mid rfl 44 (.tmp 36) rfl b1 (f1 + k * 131) (by rfl) (E1 k) _ (unhide HC) Try.underlying44 rfl (unhide HL) ?_) | (refine wpList_slice1 rfl (.tmp 37) rfl (E1 k) (unhide hbs) (by rfl) ?_) | (at_builtin; go_must (refine wpList_append_own _ rfl _ _ 22 rfl w.heap.size 44 i44 z44 131 168 Try.underlying22 (unhide HI).1 (unhide HI).2.1 (unhide HI).2.2.1 (unhide HI).2.2.2.1 (unhide HI).2.2.2.2 (by decide) v (n0 + k) _ (by rfl) ((unhide HR).1.alloc _) ⟨wr.heap.size, 0, none⟩ 1 1 (E1 k) (by rfl) (by rw [(unhide H1).len k hlt]) (World.news_of_block (cs := (E1 k).toArray) (t := 44) (fr := (0, 0)) (heap_alloc_new wr _)) ((unhide H1).one k hlt) (by unfold maxLen; omega) (by omega) (by simp; omega) ?_); intro v' w1 hown' hgrow _; have HO1 := hide hown'; clear hown'; have HG1 := hide hgrow; clear hgrow))
          go_roundw
          case rel => exact ⟨k + 1, v', by omega, by go_num, rfl, by
            have hx := unhide HO1
            rw [flat_succ, ← List.append_assoc]
            exact ⟨hx, ((unhide HR).2.alloc hsz _).grown (unhide HG1) (by simp; omega) fun j hj => ((unhide HR).1.lt j hj).1⟩⟩
          case measure => simp [intOf]; omega
        · obtain rfl : n1 = k := by omega
          go_wp2_with fail
          go_ret
          exact ⟨v, rfl, (unhide HR).1, (unhide HR).2⟩
end Go.Proofs.Qxb6613727a
