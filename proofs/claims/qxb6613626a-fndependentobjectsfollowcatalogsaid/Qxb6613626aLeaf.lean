import Derived.Test.Qxb6613626aProg
import Derived.WalkKit
import Derived.WalkSpells
import Derived.WalkLawsBesides
import Derived.Deep.QuietTactic
import Derived.BigQuiet
namespace Go.Proofs.Qxb6613626a
open Go.RowKit

theorem hide {p : Prop} (h : p) : Hid p := h
theorem unhide {p : Prop} (h : Hid p) : p := h
theorem ret_int {k : IntKind} {a b : Int} (h : a = b) : Ending.returned (.int k a) = .returned (.int k b) := by rw [h]
theorem ret_bool {a b : Bool} (h : a = b) : Ending.returned (.bool a) = .returned (.bool b) := by rw [h]

/-! zzInts -/
set_option maxHeartbeats 400000 in
theorem zzInts_any (sum : Int) (a : Option Addr) (n c : Nat) (w : World) (h0 : 0 ≤ sum) (h1 : sum ≤ 16777216) :
    Calls Try.prog 24 #[.int .i64 sum, .slice a n c] w fun e w' => ∃ r : Int, e = .returned (.int .i64 r) ∧ 0 ≤ r ∧ r ≤ 16777216 ∧ w' = w := by
  by_cases hs : 1048576 < sum
  · go_enter Try.func24, Try.ntmps24
    go_wp2
    go_ret
    exact ⟨_, rfl, by omega, by omega, rfl⟩
  · by_cases hn : 1048576 < (n : Int)
    · go_enter Try.func24, Try.ntmps24
      go_wp2
      go_ret
      exact ⟨_, rfl, by omega, by omega, rfl⟩
    · go_enter Try.func24, Try.ntmps24
      go_wp2
      go_ret
      exact ⟨_, rfl, by omega, by omega, rfl⟩

/-! zzHas -/
def has (Z : Nat → Int) (n : Nat) (x : Int) : Bool := (List.range n).any fun i => Z i == x
theorem has_hit {Z : Nat → Int} {n k : Nat} {x : Int} (hk : k < n) (h : (Z k == x) = true) : has Z n x = true := by
  unfold has; rw [List.any_eq_true]; exact ⟨k, by simpa using hk, h⟩
theorem has_none {Z : Nat → Int} {n : Nat} {x : Int} (h : ∀ i, i < n → (Z i == x) = false) : has Z n x = false := by
  unfold has; rw [List.any_eq_false]; intro i hi; rw [h i (by simpa using hi)]; simp

set_option maxHeartbeats 400000 in
theorem zzHas_any (Z : Nat → Int) (x : Int) (a : Option Addr) (n c b off : Nat) (w : World) (hn : n ≤ 9223372036854775806) (ha : 0 < n → a = some ⟨b, off, none⟩)
    (hc : ∀ i, i < n → w.cell? ⟨b, off + i, none⟩ = some (.int .i64 (Z i))) :
    Calls Try.prog 30 #[.slice a n c, .int .i64 x] w fun e w' => e = .returned (.bool (has Z n x)) ∧ w' = w := by
  go_enter Try.func30, Try.ntmps30
  go_wp2
  go_loop [5] (fun i => ∃ k : Nat, k ≤ n ∧ i = .int .i64 k ∧ Hid (∀ j, j < k → (Z j == x) = false)) (fun i => n - (intOf i).toNat)
  case atStart => exact ⟨0, Nat.zero_le _, rfl, fun j hj => absurd hj (by omega)⟩
  case round =>
    obtain ⟨k, hk, rfl, hno⟩ := hrel
    by_cases hlt : k < n
    · obtain rfl := ha (by omega)
      have hck := hc k hlt
      clear ha
      go_wp2
      · go_ret
        exact ⟨ret_bool (has_hit hlt (by assumption)).symm, rfl⟩
      · go_round
        case rel => exact ⟨k + 1, by omega, by go_num, fun j hj => by
          by_cases e : j = k
          · subst e; assumption
          · exact hno j (by omega)⟩
        case measure => simp [intOf]; omega
    · go_wp2
      go_ret
      exact ⟨ret_bool (has_none fun i hi => hno i (by omega)).symm, rfl⟩

/-! zzStrs -/
set_option maxHeartbeats 400000 in
theorem zzStrs_any (S : Nat → ByteArray) (sum : Int) (a : Option Addr) (n c b off : Nat) (w : World) (h0 : 0 ≤ sum) (h1 : sum ≤ 16777216) (hn : n ≤ 9223372036854775806) (ha : 0 < n → a = some ⟨b, off, none⟩)
    (hc : ∀ i, i < n → w.cell? ⟨b, off + i, none⟩ = some (.string (S i))) :
    Calls Try.prog 7 #[.int .i64 sum, .slice a n c] w fun e w' => ∃ r : Int, e = .returned (.int .i64 r) ∧ 0 ≤ r ∧ r ≤ 16777216 ∧ w' = w := by
  by_cases hs : 1048576 < sum
  · go_enter Try.func7, Try.ntmps7
    go_wp2
    go_ret
    exact ⟨_, rfl, by omega, by omega, rfl⟩
  · by_cases hn1 : 1048576 < (n : Int)
    · go_enter Try.func7, Try.ntmps7
      go_wp2
      go_ret
      exact ⟨_, rfl, by omega, by omega, rfl⟩
    · have hd1 : decide ((1048576 : Int) < sum) = false := by simpa using hs
      have hd2 : decide ((1048576 : Int) < (n : Int)) = false := by simpa using hn1
      go_enter Try.func7, Try.ntmps7
      go_wp2
      go_loop [0, 5] (fun s i => ∃ (k : Nat) (q : Int), k ≤ n ∧ i = .int .i64 k ∧ s = .int .i64 q ∧ 0 ≤ q ∧ q ≤ 16777216) (fun _ i => n - (intOf i).toNat)
      case atStart => exact ⟨0, sum, Nat.zero_le _, rfl, rfl, h0, h1⟩
      case round =>
        obtain ⟨k, q, hk, rfl, rfl, hq0, hq1⟩ := hrel
        by_cases hlt : k < n
        · obtain rfl := ha (by omega)
          have hck := hc k hlt
          clear ha
          by_cases hq : 1048576 < q
          · go_wp2
            go_ret
            exact ⟨_, rfl, by omega, by omega, rfl⟩
          · by_cases hl : 1048576 < ((S k).size : Int)
            · go_wp2
              go_ret
              exact ⟨_, rfl, by omega, by omega, rfl⟩
            · go_wp2
              go_round
              case rel => exact ⟨k + 1, q + (16 + ((S k).size : Int)), by omega, by go_num, by go_num, by omega, by omega⟩
              case measure => simp [intOf]; omega
        · go_wp2
          go_ret
          exact ⟨_, rfl, by omega, by omega, rfl⟩

/-! zzIntss -/
set_option maxHeartbeats 400000 in
theorem zzIntss_any (A : Nat → Option Addr) (L C : Nat → Nat) (sum : Int) (a : Option Addr) (n c b off : Nat) (w : World) (h0 : 0 ≤ sum) (h1 : sum ≤ 16777216) (hn : n ≤ 9223372036854775806) (ha : 0 < n → a = some ⟨b, off, none⟩)
    (hc : ∀ i, i < n → w.cell? ⟨b, off + i, none⟩ = some (.slice (A i) (L i) (C i))) :
    Calls Try.prog 8 #[.int .i64 sum, .slice a n c] w fun e w' => ∃ r : Int, e = .returned (.int .i64 r) ∧ 0 ≤ r ∧ r ≤ 16777216 ∧ w' = w := by
  by_cases hs : 1048576 < sum
  · go_enter Try.func8, Try.ntmps8
    go_wp2
    go_ret
    exact ⟨_, rfl, by omega, by omega, rfl⟩
  · by_cases hn1 : 1048576 < (n : Int)
    · go_enter Try.func8, Try.ntmps8
      go_wp2
      go_ret
      exact ⟨_, rfl, by omega, by omega, rfl⟩
    · have hd1 : decide ((1048576 : Int) < sum) = false := by simpa using hs
      have hd2 : decide ((1048576 : Int) < (n : Int)) = false := by simpa using hn1
      go_enter Try.func8, Try.ntmps8
      go_wp2
      go_loop [0, 5] (fun s i => ∃ (k : Nat) (q : Int), k ≤ n ∧ i = .int .i64 k ∧ s = .int .i64 q ∧ 0 ≤ q ∧ q ≤ 16777216) (fun _ i => n - (intOf i).toNat)
      case atStart => exact ⟨0, sum, Nat.zero_le _, rfl, rfl, h0, h1⟩
      case round =>
        obtain ⟨k, q, hk, rfl, rfl, hq0, hq1⟩ := hrel
        by_cases hlt : k < n
        · obtain rfl := ha (by omega)
          have hck := hc k hlt
          clear ha
          go_wp2_with (go_at_call 24; refine (zzInts_any _ _ _ _ _ (by omega) (by omega)).mono ?_; rintro e w' ⟨r, rfl, hr0, hr1, rfl⟩)
          · go_ret
            exact ⟨_, rfl, hr0, hr1, rfl⟩
          · go_round
            case rel => exact ⟨k + 1, r, by omega, by go_num, by go_num, by omega, by omega⟩
            case measure => simp [intOf]; omega
        · go_wp2
          go_ret
          exact ⟨_, rfl, by omega, by omega, rfl⟩

/-! zzIndicesIn -/
def idxIn (Z : Nat → Int) (n : Nat) (m : Int) : Bool := (List.range n).all fun i => decide (0 ≤ Z i ∧ Z i < m)
theorem idxIn_no {Z : Nat → Int} {n k : Nat} {m : Int} (hk : k < n) (h : ¬ (0 ≤ Z k ∧ Z k < m)) : idxIn Z n m = false := by
  unfold idxIn; rw [List.all_eq_false]; exact ⟨k, by simpa using hk, by simpa using h⟩
theorem idxIn_yes {Z : Nat → Int} {n : Nat} {m : Int} (h : ∀ i, i < n → 0 ≤ Z i ∧ Z i < m) : idxIn Z n m = true := by
  unfold idxIn; rw [List.all_eq_true]; intro i hi; simpa using h i (by simpa using hi)
theorem idxIn_get {Z : Nat → Int} {n : Nat} {m : Int} (h : idxIn Z n m = true) : ∀ i, i < n → 0 ≤ Z i ∧ Z i < m := by
  unfold idxIn at h; rw [List.all_eq_true] at h; intro i hi; simpa using h i (by simpa using hi)

set_option maxHeartbeats 400000 in
theorem zzIndicesIn_any (Z : Nat → Int) (m : Int) (a : Option Addr) (n c b off : Nat) (w : World) (hn : n ≤ 9223372036854775806) (ha : 0 < n → a = some ⟨b, off, none⟩)
    (hc : ∀ i, i < n → w.cell? ⟨b, off + i, none⟩ = some (.int .i64 (Z i))) :
    Calls Try.prog 26 #[.slice a n c, .int .i64 m] w fun e w' => e = .returned (.bool (idxIn Z n m)) ∧ w' = w := by
  go_enter Try.func26, Try.ntmps26
  go_wp2
  go_loop [5] (fun i => ∃ k : Nat, k ≤ n ∧ i = .int .i64 k ∧ Hid (∀ j, j < k → 0 ≤ Z j ∧ Z j < m)) (fun i => n - (intOf i).toNat)
  case atStart => exact ⟨0, Nat.zero_le _, rfl, fun j hj => absurd hj (by omega)⟩
  case round =>
    obtain ⟨k, hk, rfl, hno⟩ := hrel
    by_cases hlt : k < n
    · obtain rfl := ha (by omega)
      have hck := hc k hlt
      clear ha
      by_cases hz0 : Z k < 0
      · go_wp2
        go_ret
        exact ⟨ret_bool (idxIn_no hlt (by omega)).symm, rfl⟩
      · by_cases hz1 : m ≤ Z k
        · go_wp2
          go_ret
          exact ⟨ret_bool (idxIn_no hlt (by omega)).symm, rfl⟩
        · go_wp2
          go_round
          case rel => exact ⟨k + 1, by omega, by go_num, fun j hj => by
            by_cases e : j = k
            · subst e; omega
            · exact hno j (by omega)⟩
          case measure => simp [intOf]; omega
    · go_wp2
      go_ret
      exact ⟨ret_bool (idxIn_yes fun i hi => hno i (by omega)).symm, rfl⟩
end Go.Proofs.Qxb6613626a
