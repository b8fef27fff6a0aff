import Derived.Test.Qxb6613631aDoorProg
import Derived.WalkKit
import Derived.WalkSpells
import Derived.WalkLawsBesides
import Derived.Deep.QuietTactic
import Derived.BigQuiet
import Derived.Deep.OwnRows
import Derived.Deep.DeepMust
namespace Go.Proofs.Qxb6613631aDoor
open Go.RowKit

theorem hide {p : Prop} (h : p) : Hid p := h
theorem unhide {p : Prop} (h : Hid p) : p := h
theorem ret_bool {a b : Bool} (h : a = b) : Ending.returned (.bool a) = .returned (.bool b) := by rw [h]

/-! zzBytes -/
set_option maxHeartbeats 400000 in
theorem zzBytes_any (a : Option Addr) (n c : Nat) (w : World) :
    Calls Tryd.prog 10 #[.slice a n c] w fun e w' => e = .returned (.bool (decide ((n : Int) ≤ 1048576))) ∧ w' = w := by
  by_cases h : (1048576 : Int) < (n : Int)
  · have hd : decide ((n : Int) ≤ 1048576) = false := by simp; omega
    go_enter Tryd.func10, Tryd.ntmps10
    go_wp2
    go_ret
    exact ⟨ret_bool hd.symm, rfl⟩
  · have hd : decide ((n : Int) ≤ 1048576) = true := by simp; omega
    go_enter Tryd.func10, Tryd.ntmps10
    go_wp2
    go_ret
    exact ⟨rfl, rfl⟩

/-! npzB1CloneBytes -/
/-- the clone's cells behind k rounds -/
def Cl (Z : Nat → Int) (n k : Nat) : Array Value := ((List.range n).map fun i => if i < k then Value.int .u8 (Z i) else .int .u8 0).toArray
theorem Cl_size (Z : Nat → Int) (n k : Nat) : (Cl Z n k).size = n := by simp [Cl]
theorem Cl_get (Z : Nat → Int) (n k i : Nat) (h : i < n) : (Cl Z n k)[i]? = some (if i < k then Value.int .u8 (Z i) else .int .u8 0) := by simp [Cl, h]
theorem Cl_zero (Z : Nat → Int) (n : Nat) : madeCells #[Value.int .u8 0] n = Cl Z n 0 := by
  apply Array.ext_getElem?
  intro i
  by_cases h : i < n
  · rw [Cl_get Z n 0 i h]; simp [madeCells, h, Nat.mod_one]
  · rw [Array.getElem?_eq_none (by simp [madeCells]; omega), Array.getElem?_eq_none (by rw [Cl_size]; omega)]
theorem Cl_succ (Z : Nat → Int) (n k : Nat) (h : k < n) : (Cl Z n k).setIfInBounds k (.int .u8 (Z k)) = Cl Z n (k + 1) := by
  apply Array.ext_getElem?
  intro i
  by_cases hi : i < n
  · rw [Cl_get Z n (k + 1) i hi, Array.getElem?_setIfInBounds]
    by_cases e : k = i
    · subst e; simp [Cl_size, h]
    · rw [if_neg e, Cl_get Z n k i hi]
      congr 1
      have : (i < k) ↔ (i < k + 1) := by omega
      simp [this]
  · rw [Array.getElem?_eq_none (by simp [Cl_size]; omega), Array.getElem?_eq_none (by rw [Cl_size]; omega)]
theorem Tryd.info5 : (Tryd.prog.info? 5).map (fun i => (i.zero, i.size, i.bytes)) = some (some (.int .u8 0), 1, 1) := by kernel_rfl

/-- what the clone comes to: nil of nil, else a new row -/
def ClPost (w : World) (a : Option Addr) (n : Nat) (Z : Nat → Int) (e : Ending) (w' : World) : Prop :=
  (a = none ∧ e = .returned (.slice none 0 0) ∧ w' = w) ∨ (a ≠ none ∧ e = .returned (.slice (some ⟨w.heap.size, 0, none⟩) n n) ∧ w' = w.alloc (.cells (Cl Z n n) 5))

set_option maxRecDepth 100000 in
set_option maxHeartbeats 800000 in
theorem clone_any (Z : Nat → Int) (a : Option Addr) (n c b off : Nat) (w : World) (hn : n ≤ 1048576) (ha : 0 < n → a = some ⟨b, off, none⟩ ∧ b < w.heap.size)
    (hc : ∀ i, i < n → w.cell? ⟨b, off + i, none⟩ = some (.int .u8 (Z i))) :
    Calls Tryd.prog 11 #[.slice a n c] w fun e w' => ClPost w a n Z e w' := by
  have HC := hide (And.intro ha hc)
  clear ha hc
  have hq := fun wx => Lib.run_eql_slice_nil (P := Tryd.prog) wx 25 5 a n c 0 0 Tryd.underlying25
  cases a with
  | none =>
    go_enter Tryd.func11, Tryd.ntmps11
    go_wp2
    go_ret
    exact .inl ⟨rfl, rfl, rfl⟩
  | some ad =>
    have hmk := run_make_row' (P := Tryd.prog) 25 5 (.int .u8 0) 1 Tryd.underlying25 Tryd.info5 rfl .i64 .i64 n (by omega) (by omega)
    rw [Cl_zero Z n] at hmk
    go_enter Tryd.func11, Tryd.ntmps11
    go_wp2
    clear hmk
    go_loopw [4] (fun i wr => ∃ k : Nat, k ≤ n ∧ i = .int .i64 k ∧ wr = w.alloc (.cells (Cl Z n k) 5)) (fun i _ => n - (intOf i).toNat)
    case atStart => exact ⟨0, Nat.zero_le _, rfl, rfl⟩
    case round =>
      obtain ⟨k, hk, rfl, rfl⟩ := hrel
      by_cases hlt : k < n
      · obtain ⟨h1, hbl⟩ := (unhide HC).1 (by omega)
        cases h1
        have hck := (unhide HC).2 k hlt
        have hx : (Cl Z n k)[k]? = some (.int .u8 0) := by rw [Cl_get Z n k k hlt]; simp
        have hs := Cl_succ Z n k hlt
        have hsz := Cl_size Z n k
        go_wp2
        go_roundw
        case rel => exact ⟨k + 1, by omega, by go_num, by simp⟩
        case measure => simp [intOf]; omega
      · obtain rfl : k = n := by omega
        go_wp2
        go_ret
        exact .inr ⟨by simp, rfl, rfl⟩
end Go.Proofs.Qxb6613631aDoor
