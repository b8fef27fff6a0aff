import Derived.Test.Qxb6613727aProg
import Derived.WalkKit
import Derived.WalkSpells
import Derived.WalkLawsBesides
import Derived.Deep.QuietTactic
import Derived.BigQuiet
import Derived.Deep.OwnRows
import Derived.Deep.DeepMust
import Derived.Deep.MidRow
namespace Go.Proofs.Qxb6613727a
open Go.RowKit

theorem hide {p : Prop} (h : p) : Hid p := h
theorem unhide {p : Prop} (h : Hid p) : p := h
theorem ret_bool {a b : Bool} (h : a = b) : Ending.returned (.bool a) = .returned (.bool b) := by rw [h]

/-- a slice of checkpoints, its cells: element i lies from off + i * 131 on -/
structure CK (w : World) (a : Option Addr) (n b off : Nat) (EC : Nat → List Value) (S : Nat → Int) : Prop where
  nil : a = none → n = 0
  mx : (n : Int) ≤ 9223372036854775807
  ad : 0 < n → a = some ⟨b, off, none⟩
  lt : 0 < n → b < w.heap.size
  rng : ∀ i, i < n → w.rangeAt b (off + i * 131) (EC i)
  len : ∀ i, i < n → (EC i).length = 131
  one : ∀ i, i < n → ∀ v ∈ EC i, v.oneCell' = true
  rep : ∀ i, i < n → ∃ r, (EC i)[0]? = some (.int .u32 r)
  seq : ∀ i, i < n → (EC i)[1]? = some (.int .u64 (S i))
  sig : ∀ i, i < n → ∃ (l c : Nat) (a : Option Addr), (EC i)[130]? = some (.slice a l c) ∧ (l : Int) ≤ 9223372036854775807

theorem CK.sigCell {w : World} {a : Option Addr} {n b off : Nat} {EC : Nat → List Value} {S : Nat → Int} (h : CK w a n b off EC S) {i : Nat} (hi : i < n) :
    ∃ (l c : Nat) (a : Option Addr), w.cell? ⟨b, off + i * 131 + 130, none⟩ = some (.slice a l c) ∧ (l : Int) ≤ 9223372036854775807 := by
  obtain ⟨l, c, x, h1, h2⟩ := h.sig i hi
  exact ⟨l, c, x, h.rng i hi 130 _ h1, h2⟩

def BPost (w : World) (e : Ending) (w' : World) : Prop := ∃ x : Bool, e = .returned (.bool x) ∧ w' = w

set_option maxRecDepth 100000 in
set_option maxHeartbeats 1600000 in
theorem over_any (a0 a1 : Option Addr) (n0 c0 b0 f0 n1 c1 b1 f1 : Nat) (E0 E1 : Nat → List Value) (S0 S1 : Nat → Int) (s : Nat) (w : World) (h0 : CK w a0 n0 b0 f0 E0 S0) (h1 : CK w a1 n1 b1 f1 E1 S1) :
    Calls Try.prog 5 #[.slice a0 n0 c0, .slice a1 n1 c1, .int .i64 s] w (BPost w) := by
  have H0 := hide h0
  have H1 := hide h1
  have mx0 := h0.mx
  have mx1 := h1.mx
  clear h0 h1
  by_cases hb : (1048576 : Int) < (s : Int)
  · go_enter Try.func5, Try.ntmps5
    go_wp2
    go_ret
    exact ⟨true, rfl, rfl⟩
  · go_enter Try.func5, Try.ntmps5
    go_wp2
    go_loopw [7, 8] (fun t i wr => ∃ (k u : Nat), k ≤ n0 ∧ i = .int .i64 k ∧ t = .int .i64 u ∧ (u : Int) ≤ 1048576 ∧ w = wr) (fun _ i _ => n0 - (intOf i).toNat)
    case atStart => exact ⟨0, s, Nat.zero_le _, rfl, rfl, by omega, rfl⟩
    case round =>
      obtain ⟨k, u, hk, rfl, rfl, hu, rfl⟩ := hrel
      by_cases hlt : k < n0
      · obtain ⟨l, c, x, q1, q2⟩ := (unhide H0).sigCell hlt
        obtain rfl := (unhide H0).ad (by omega)
        by_cases g1 : (1048576 : Int) < (l : Int)
        · go_wp2
          go_ret
          exact ⟨true, rfl, rfl⟩
        · by_cases g2 : (1048576 : Int) < (u : Int) + (176 + (l : Int))
          · go_wp2
            go_ret
            exact ⟨true, rfl, rfl⟩
          · go_wp2
            go_roundw
            case rel => exact ⟨k + 1, u + (176 + l), by omega, by go_num, by go_num, by omega, by simp⟩
            case measure => simp [intOf]; omega
      · obtain rfl : k = n0 := by omega
        go_wp2
        go_loopw [7, 9] (fun t i wr => ∃ (k u : Nat), k ≤ n1 ∧ i = .int .i64 k ∧ t = .int .i64 u ∧ (u : Int) ≤ 1048576 ∧ w = wr) (fun _ i _ => n1 - (intOf i).toNat)
        case atStart => exact ⟨0, u, Nat.zero_le _, rfl, rfl, by omega, rfl⟩
        case round =>
          obtain ⟨j, u, hj, rfl, rfl, hu, rfl⟩ := hrel
          by_cases hlt : j < n1
          · obtain ⟨l, c, x, q1, q2⟩ := (unhide H1).sigCell hlt
            obtain rfl := (unhide H1).ad (by omega)
            by_cases g1 : (1048576 : Int) < (l : Int)
            · go_wp2
              go_ret
              exact ⟨true, rfl, rfl⟩
            · by_cases g2 : (1048576 : Int) < (u : Int) + (176 + (l : Int))
              · go_wp2
                go_ret
                exact ⟨true, rfl, rfl⟩
              · go_wp2
                go_roundw
                case rel => exact ⟨j + 1, u + (176 + l), by omega, by go_num, by go_num, by omega, by simp⟩
                case measure => simp [intOf]; omega
          · obtain rfl : j = n1 := by omega
            go_wp2
            go_ret
            exact ⟨false, rfl, rfl⟩

set_option maxRecDepth 100000 in
set_option maxHeartbeats 3200000 in
theorem zzBytes_any (a0 a1 a3 : Option Addr) (n0 c0 b0 f0 n1 c1 b1 f1 n3 c3 : Nat) (q : Value) (E0 E1 : Nat → List Value) (S0 S1 : Nat → Int) (w : World) (h0 : CK w a0 n0 b0 f0 E0 S0) (h1 : CK w a1 n1 b1 f1 E1 S1) :
    Calls Try.prog 4 #[.slice a0 n0 c0, .slice a1 n1 c1, q, .slice a3 n3 c3] w (BPost w) := by
  have H0 := hide h0
  have H1 := hide h1
  have mx0 := h0.mx
  have mx1 := h1.mx
  clear h0 h1
  by_cases hb : (1048576 : Int) < (n0 : Int)
  · go_enter Try.func4, Try.ntmps4
    go_wp2
    go_ret
    exact ⟨false, rfl, rfl⟩
  · go_enter Try.func4, Try.ntmps4
    go_wp2
    go_loopw [9, 10] (fun t i wr => ∃ (k u : Nat), k ≤ n0 ∧ i = .int .i64 k ∧ t = .int .i64 u ∧ (u : Int) ≤ 1048576 ∧ w = wr) (fun _ i _ => n0 - (intOf i).toNat)
    case atStart => exact ⟨0, n0, Nat.zero_le _, rfl, by go_num, by omega, by simp⟩
    case round =>
      obtain ⟨k, u, hk, rfl, rfl, hu, rfl⟩ := hrel
      by_cases hlt : k < n0
      · obtain ⟨l, c, x, q1, q2⟩ := (unhide H0).sigCell hlt
        obtain rfl := (unhide H0).ad (by omega)
        by_cases e1 : (1048576 : Int) < (u : Int) + 32
        · go_wp2
          go_ret
          exact ⟨false, rfl, rfl⟩
        by_cases e2 : (1048576 : Int) < (u : Int) + 32 + 32
        · go_wp2
          go_ret
          exact ⟨false, rfl, rfl⟩
        by_cases e3 : (1048576 : Int) < (u : Int) + 32 + 32 + 32
        · go_wp2
          go_ret
          exact ⟨false, rfl, rfl⟩
        by_cases e4 : (1048576 : Int) < (u : Int) + 32 + 32 + 32 + 32
        · go_wp2
          go_ret
          exact ⟨false, rfl, rfl⟩
        by_cases g1 : (1048576 : Int) < (l : Int)
        · go_wp2
          go_ret
          exact ⟨false, rfl, rfl⟩
        by_cases g2 : (1048576 : Int) < (u : Int) + 32 + 32 + 32 + 32 + (l : Int)
        · go_wp2
          go_ret
          exact ⟨false, rfl, rfl⟩
        go_wp2
        go_roundw
        case rel => exact ⟨k + 1, u + 32 + 32 + 32 + 32 + l, by omega, by go_num, by go_num, by omega, by simp⟩
        case measure => simp [intOf]; omega
      · obtain rfl : k = n0 := by omega
        by_cases t1 : (1048576 : Int) < (n1 : Int)
        · go_wp2
          go_ret
          exact ⟨false, rfl, rfl⟩
        by_cases t2 : (1048576 : Int) < (u : Int) + (n1 : Int)
        · go_wp2
          go_ret
          exact ⟨false, rfl, rfl⟩
        go_wp2
        go_loopw [9, 11] (fun t i wr => ∃ (k u : Nat), k ≤ n1 ∧ i = .int .i64 k ∧ t = .int .i64 u ∧ (u : Int) ≤ 1048576 ∧ w = wr) (fun _ i _ => n1 - (intOf i).toNat)
        case atStart => exact ⟨0, u + n1, Nat.zero_le _, rfl, by go_num, by omega, by simp⟩
        case round =>
          obtain ⟨k, u, hk, rfl, rfl, hu, rfl⟩ := hrel
          by_cases hlt : k < n1
          · obtain ⟨l, c, x, q1, q2⟩ := (unhide H1).sigCell hlt
            obtain rfl := (unhide H1).ad (by omega)
            by_cases e1 : (1048576 : Int) < (u : Int) + 32
            · go_wp2
              go_ret
              exact ⟨false, rfl, rfl⟩
            by_cases e2 : (1048576 : Int) < (u : Int) + 32 + 32
            · go_wp2
              go_ret
              exact ⟨false, rfl, rfl⟩
            by_cases e3 : (1048576 : Int) < (u : Int) + 32 + 32 + 32
            · go_wp2
              go_ret
              exact ⟨false, rfl, rfl⟩
            by_cases e4 : (1048576 : Int) < (u : Int) + 32 + 32 + 32 + 32
            · go_wp2
              go_ret
              exact ⟨false, rfl, rfl⟩
            by_cases g1 : (1048576 : Int) < (l : Int)
            · go_wp2
              go_ret
              exact ⟨false, rfl, rfl⟩
            by_cases g2 : (1048576 : Int) < (u : Int) + 32 + 32 + 32 + 32 + (l : Int)
            · go_wp2
              go_ret
              exact ⟨false, rfl, rfl⟩
            go_wp2
            go_roundw
            case rel => exact ⟨k + 1, u + 32 + 32 + 32 + 32 + l, by omega, by go_num, by go_num, by omega, by simp⟩
            case measure => simp [intOf]; omega
          · obtain rfl : k = n1 := by omega
            by_cases t1 : (1048576 : Int) < (n3 : Int)
            · go_wp2
              go_ret
              exact ⟨false, rfl, rfl⟩
            by_cases t2 : (1048576 : Int) < (u : Int) + (n3 : Int)
            · go_wp2
              go_ret
              exact ⟨false, rfl, rfl⟩
            go_wp2
            go_ret
            exact ⟨true, rfl, rfl⟩
end Go.Proofs.Qxb6613727a
