import Derived.Test.Qxb6613631aDoorI
namespace Go.Proofs.Qxb6613631aDoor
open Go.RowKit

/-- what was written, as cells of the row -/
def outCells (Z : Nat → Int) (n : Nat) : List Value := (List.range n).map (fun i => Value.int .u8 (Z i))
theorem outCells_len (Z : Nat → Int) (n : Nat) : (outCells Z n).length = n := by simp [outCells]
theorem outCells_get (Z : Nat → Int) (n i : Nat) (h : i < n) : (outCells Z n ++ endRec)[i]? = some (.int .u8 (Z i)) := by
  rw [List.getElem?_append_left (by rw [outCells_len]; exact h)]; simp [outCells, h]
theorem outCells_end (Z : Nat → Int) (n j : Nat) : (outCells Z n ++ endRec)[n + j]? = endRec[j]? := by
  rw [List.getElem?_append_right (by rw [outCells_len]; omega), outCells_len]; congr 1; omega
theorem outCells_one (Z : Nat → Int) (n : Nat) : ∀ v ∈ outCells Z n, v.oneCell' = true := by
  intro v hv
  obtain ⟨x, _, rfl⟩ := List.mem_map.1 hv
  rfl
theorem Cl_list (Z : Nat → Int) (n : Nat) : (Cl Z n n).toList = outCells Z n := by
  simp only [Cl, outCells]
  apply List.map_congr_left
  intro i hi
  simp [List.mem_range.1 hi]
theorem endRec_zero (j : Nat) (h : 4 ≤ j) (h2 : j < 22) : endRec[j]? = some (.int .u8 0) := by
  have hj : j = 4 ∨ j = 5 ∨ j = 6 ∨ j = 7 ∨ j = 8 ∨ j = 9 ∨ j = 10 ∨ j = 11 ∨ j = 12 ∨ j = 13 ∨ j = 14 ∨ j = 15 ∨ j = 16 ∨ j = 17 ∨ j = 18 ∨ j = 19 ∨ j = 20 ∨ j = 21 := by omega
  rcases hj with rfl | rfl | rfl | rfl | rfl | rfl | rfl | rfl | rfl | rfl | rfl | rfl | rfl | rfl | rfl | rfl | rfl | rfl <;> rfl

/-- the row that ZZ hands back, read -/
structure OutRow (w : World) (g n cap : Nat) (Z : Nat → Int) : Prop where
  le : n + 22 ≤ cap
  mx : cap ≤ maxLen
  old : ∀ i, i < n → w.cell? ⟨g, i, none⟩ = some (.int .u8 (Z i))
  fin : ∀ j, j < 22 → w.cell? ⟨g, n + j, none⟩ = endRec[j]?
theorem outRow_of {w : World} {B n m : Nat} {u : Value} {Z : Nat → Int} (hm : m = n + 22) (h : w.ownsRow B 5 1 u m (outCells Z n ++ endRec)) : ∃ g cap, u = .slice (some ⟨g, 0, none⟩) (n + 22) cap ∧ OutRow w g n cap Z := by
  subst hm
  rcases h.2 with ⟨_, h0⟩ | ⟨g, cap, cur, rfl, _, hg, h1, h2, h3, h4⟩
  · omega
  · refine ⟨g, cap, rfl, h1, h2, fun i hi => ?_, fun j hj => ?_⟩
    · rw [cell_of_row _ _ _ _ _ _ hg, ← outCells_get Z n i hi, ← h4, List.getElem?_take, if_pos (by omega)]; simp
    · rw [cell_of_row _ _ _ _ _ _ hg, ← outCells_end Z n j, ← h4, List.getElem?_take, if_pos (by omega)]; simp

def LPost (w : World) (e : Ending) (w' : World) : Prop := e = .returned (.bool true) ∧ Below w.heap.size w w'

set_option maxRecDepth 100000 in
set_option maxHeartbeats 1600000 in
theorem law5_any (Z : Nat → Int) (a : Option Addr) (n c b off : Nat) (w : World) (ha : 0 < n → a = some ⟨b, off, none⟩ ∧ b < w.heap.size) (h0 : a = none → n = 0)
    (hc : ∀ i, i < n → w.cell? ⟨b, off + i, none⟩ = some (.int .u8 (Z i))) :
    Calls Tryd.prog 5 #[.slice a n c] w (LPost w) := by
  have HZ := hide (zzBytes_any a n c w)
  by_cases hn : (n : Int) ≤ 1048576
  · have hd : decide ((n : Int) ≤ 1048576) = true := by simpa using hn
    have hn' : n ≤ 1048576 := by omega
    have HC1 := hide (clone_any Z a n c b off w hn' ha hc)
    cases a with
    | none =>
      obtain rfl := h0 rfl
      have HO := hide (zz_any w.heap.size none 0 0 (outCells Z 0) w (Nat.le_refl _) (World.ownsRow_nil _ _ _ _) (outCells_one Z 0) (by simp [outCells]))
      clear ha hc h0
      go_enter Tryd.func5, Tryd.ntmps5
      go_wp2_with (first | (go_at_call 10; refine (unhide HZ).mono ?_; rintro e w1 ⟨rfl, hq⟩; obtain rfl := hq.symm; clear hq) | (go_at_call 11; refine (unhide HC1).mono ?_; rintro e w1 (⟨-, rfl, rfl⟩ | ⟨hx, -⟩)) | (go_at_call 12; refine (unhide HO).mono ?_; rintro e w4 ⟨u, rfl, h4, b4⟩; obtain ⟨g, cap, rfl, hO⟩ := outRow_of (by simp [endRec, outCells]) h4))
      have hcap := hO.le
      have hmx := hO.mx
      unfold maxLen at hmx
      have x0 : w4.cell? ⟨g, 0, none⟩ = some (.int .u8 80) := hO.fin 0 (by decide)
      have x1 : w4.cell? ⟨g, 1, none⟩ = some (.int .u8 75) := hO.fin 1 (by decide)
      have x2 : w4.cell? ⟨g, 2, none⟩ = some (.int .u8 5) := hO.fin 2 (by decide)
      have x3 : w4.cell? ⟨g, 3, none⟩ = some (.int .u8 6) := hO.fin 3 (by decide)
      have xk : ∀ k, 4 ≤ k → k < 22 → w4.cell? ⟨g, k, none⟩ = some (.int .u8 0) := fun k h1 h2 => by { have := hO.fin k h2; rw [endRec_zero k h1 h2, Nat.zero_add] at this; exact this }
      have XK := hide xk
      have B4 := hide b4
      clear h4 hO xk b4 HZ HC1 HO hn hd hn'
      refine wp_loop_rounds 1 ?_
      rw [rounds_succ]
      go_wp2_with fail
      go_loopw [8] (fun i wr => ∃ k : Nat, 4 ≤ k ∧ k ≤ 22 ∧ i = .int .i64 k ∧ wr = w4) (fun i _ => 22 - (intOf i).toNat)
      case atStart => exact ⟨4, by omega, by omega, rfl, rfl⟩
      case round =>
        obtain ⟨k, hk4, hk, rfl, rfl⟩ := hrel
        by_cases hlt : k < 22
        · have hck := unhide XK k hk4 hlt
          go_wp2
          go_roundw
          case rel => exact ⟨k + 1, by omega, by omega, by go_num, by simp⟩
          case measure => simp [intOf]; omega
        · obtain rfl : k = 22 := by omega
          go_wp2
          go_ret
          exact ⟨rfl, unhide B4⟩
    | some ad =>
      have hb1 : Below w.heap.size w (w.alloc (.cells (Cl Z n n) 5)) := (Below.refl _ _).alloc (Nat.le_refl _) _
      have HC2 := hide (clone_any Z (some ad) n c b off (w.alloc (.cells (Cl Z n n) 5)) hn' (fun h => ⟨(ha h).1, by have := (ha h).2; simp; omega⟩) (fun i hi => (hb1.cell (p := ⟨b, off + i, none⟩) (ha (by omega)).2).trans (hc i hi)))
      have hr : ((w.alloc (.cells (Cl Z n n) 5)).alloc (.cells (Cl Z n n) 5)).ownsRow (w.heap.size + 1) 5 1 (.slice (some ⟨w.heap.size + 1, 0, none⟩) n n) (outCells Z n).length (outCells Z n) := by
        refine ⟨by simp, .inr ⟨w.heap.size + 1, n, Cl Z n n, by rw [outCells_len], Nat.le_refl _, ?_, by rw [outCells_len]; exact Nat.le_refl _, by unfold maxLen; omega, by rw [Cl_size]; omega, ?_⟩⟩
        · have := heap_alloc_new (w.alloc (.cells (Cl Z n n) 5)) (.cells (Cl Z n n) 5)
          rwa [World.size_alloc] at this
        · rw [Cl_list]; simp
      have HO := hide (zz_any (w.heap.size + 1) (some ⟨w.heap.size + 1, 0, none⟩) n n (outCells Z n) _ (by simp) hr (outCells_one Z n) (by rw [outCells_len]; exact hn'))
      have hw : ((w.alloc (.cells (Cl Z n n) 5)).alloc (.cells (Cl Z n n) 5)).heap[w.heap.size]? = some (.cells (Cl Z n n) 5 (0, 0)) := (Below.heap_alloc _ _ _ (by simp)).trans (heap_alloc_new w _)
      have HW := hide hw
      have HB2 := hide (hb1.alloc (by simp) (.cells (Cl Z n n) 5))
      clear ha hc h0 hr hw hb1
      go_enter Tryd.func5, Tryd.ntmps5
      go_wp2_with (first | (go_at_call 10; refine (unhide HZ).mono ?_; rintro e w1 ⟨rfl, hq⟩; obtain rfl := hq.symm; clear hq) | (go_at_call 11; refine (unhide HC1).mono ?_; rintro e w1 (⟨hx, -⟩ | ⟨-, rfl, rfl⟩); cases hx) | (go_at_call 11; refine (unhide HC2).mono ?_; rintro e w1 (⟨hx, -⟩ | ⟨-, rfl, rfl⟩); cases hx) | (go_at_call 12; refine (unhide HO).mono ?_; rintro e w4 ⟨u, rfl, h4, b4⟩; obtain ⟨g, cap, rfl, hO⟩ := outRow_of (by simp [endRec, outCells]) h4))
      have hcap := hO.le
      have hmx := hO.mx
      unfold maxLen at hmx
      have x0 : w4.cell? ⟨g, n, none⟩ = some (.int .u8 80) := hO.fin 0 (by decide)
      have x1 : w4.cell? ⟨g, n + 1, none⟩ = some (.int .u8 75) := hO.fin 1 (by decide)
      have x2 : w4.cell? ⟨g, n + 2, none⟩ = some (.int .u8 5) := hO.fin 2 (by decide)
      have x3 : w4.cell? ⟨g, n + 3, none⟩ = some (.int .u8 6) := hO.fin 3 (by decide)
      have xk : ∀ k, 4 ≤ k → k < 22 → w4.cell? ⟨g, n + k, none⟩ = some (.int .u8 0) := fun k h1 h2 => by { have := hO.fin k h2; rw [endRec_zero k h1 h2] at this; exact this }
      have yk : ∀ i, i < n → w4.cell? ⟨w.heap.size, i, none⟩ = some (.int .u8 (Z i)) := fun i hi => by { rw [cell_of_row _ _ _ _ _ _ ((b4.block w.heap.size (by omega)).trans (unhide HW)), Cl_get Z n n i hi, if_pos hi] }
      have XK := hide (And.intro xk (And.intro hO.old yk))
      have B4 := hide ((unhide HB2).trans (b4.mono (by omega)))
      clear h4 hO xk yk b4 HZ HC1 HC2 HO HW HB2 hd
      go_loopw [6] (fun i wr => ∃ k q : Nat, k ≤ n ∧ i = .int .i64 k ∧ wr = w4.drewN q) (fun i _ => n - (intOf i).toNat)
      case atStart => exact ⟨0, 0, by omega, rfl, rfl⟩
      case round =>
        obtain ⟨k, q, hk, rfl, rfl⟩ := hrel
        by_cases hlt : k < n
        · have y1 := (unhide XK).2.1 k hlt
          have y2 := (unhide XK).2.2 k hlt
          clear x0 x1 x2 x3
          go_wp2_with fail
          go_quiet (fail)
          go_wp2
          go_roundw
          case rel => exact ⟨k + 1, _, by omega, by go_num, rfl⟩
          case measure => simp [intOf]; omega
        · obtain rfl : k = n := by omega
          go_wp2_with fail
          go_loopw [8] (fun i wr => ∃ j : Nat, 4 ≤ j ∧ j ≤ 22 ∧ i = .int .i64 j ∧ wr = w4.drewN q) (fun i _ => 22 - (intOf i).toNat)
          case atStart => exact ⟨4, by omega, by omega, rfl, rfl⟩
          case round =>
            obtain ⟨j, hj4, hj, rfl, rfl⟩ := hrel
            by_cases hlt : j < 22
            · have hck := (unhide XK).1 j hj4 hlt
              go_wp2
              go_roundw
              case rel => exact ⟨j + 1, by omega, by omega, by go_num, by simp⟩
              case measure => simp [intOf]; omega
            · obtain rfl : j = 22 := by omega
              go_wp2
              go_ret
              have hbe := unhide B4
              exact ⟨rfl, ⟨hbe.os, hbe.tape, hbe.output, hbe.size, hbe.block⟩⟩
  · have hd : decide ((n : Int) ≤ 1048576) = false := by simp; omega
    clear ha hc h0
    go_enter Tryd.func5, Tryd.ntmps5
    go_wp2_with (go_at_call 10; refine (unhide HZ).mono ?_; rintro e w1 ⟨rfl, hq⟩; obtain rfl := hq.symm; clear hq)
    go_ret
    exact ⟨rfl, Below.refl _ _⟩
end Go.Proofs.Qxb6613631aDoor
