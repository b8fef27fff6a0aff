import Derived.Test.Qxb6614091aProg
import Derived.WalkKit
import Derived.WalkSpells
import Derived.WalkLawsBesides
import Derived.Deep.QuietTactic
import Derived.BigQuiet
import Derived.Deep.OwnRows
import Derived.Deep.DeepMust
namespace Go.Proofs.Qxb6614091a
open Go.RowKit

theorem hide {p : Prop} (h : p) : Hid p := h
theorem unhide {p : Prop} (h : Hid p) : p := h

def cmpI (n b : Int) : Int := if n < b then -1 else if b < n then 1 else 0
def ccmp (n s b : Int) : Int := if s = 0 then cmpI n b else s

theorem isNaN_any (n : Int) (w : World) : Calls Try.prog 7 #[.int .i64 n] w fun e w' => e = .returned (.bool false) ∧ w' = w := by
  go_enter Try.func7, Try.ntmps7
  go_wp2
  go_ret
  exact ⟨rfl, rfl⟩

set_option maxHeartbeats 400000 in
theorem compare_any (n b : Int) (w : World) : Calls Try.prog 6 #[.int .i64 n, .int .i64 b] w fun e w' => e = .returned (.int .i64 (cmpI n b)) ∧ w' = w := by
  have H1 := hide (isNaN_any n w)
  have H2 := hide (isNaN_any b w)
  by_cases h1 : n < b
  · have hv : cmpI n b = -1 := by simp [cmpI, h1]
    rw [hv]
    clear hv
    go_enter Try.func6, Try.ntmps6
    go_wp2_with (first | (go_at_call 7; refine (unhide H1).mono ?_; rintro e w1 ⟨rfl, hq⟩; obtain rfl := hq.symm; clear hq H1) | (go_at_call 7; refine (unhide H2).mono ?_; rintro e w1 ⟨rfl, hq⟩; obtain rfl := hq.symm; clear hq H2))
    go_ret
    exact ⟨rfl, rfl⟩
  · by_cases h2 : b < n
    · have hv : cmpI n b = 1 := by simp [cmpI, h1, h2]
      rw [hv]
      clear hv
      go_enter Try.func6, Try.ntmps6
      go_wp2_with (first | (go_at_call 7; refine (unhide H1).mono ?_; rintro e w1 ⟨rfl, hq⟩; obtain rfl := hq.symm; clear hq H1) | (go_at_call 7; refine (unhide H2).mono ?_; rintro e w1 ⟨rfl, hq⟩; obtain rfl := hq.symm; clear hq H2))
      go_ret
      exact ⟨rfl, rfl⟩
    · have hv : cmpI n b = 0 := by simp [cmpI, h1, h2]
      rw [hv]
      clear hv
      go_enter Try.func6, Try.ntmps6
      go_wp2_with (first | (go_at_call 7; refine (unhide H1).mono ?_; rintro e w1 ⟨rfl, hq⟩; obtain rfl := hq.symm; clear hq H1) | (go_at_call 7; refine (unhide H2).mono ?_; rintro e w1 ⟨rfl, hq⟩; obtain rfl := hq.symm; clear hq H2))
      go_ret
      exact ⟨rfl, rfl⟩

set_option maxHeartbeats 400000 in
theorem cmp_any (p : Nat) (n s b : Int) (w : World) (c1 : w.cell? ⟨p, 1, none⟩ = some (.int .i64 n)) (c2 : w.cell? ⟨p, 2, none⟩ = some (.int .i64 s)) :
    Calls Try.prog 5 #[.pointer (some ⟨p, 0, none⟩), .int .i64 b] w fun e w' => e = .returned (.int .i64 (ccmp n s b)) ∧ w' = w := by
  by_cases hs : s = 0
  · subst hs
    have H := hide (compare_any n b w)
    have hv : ccmp n 0 b = cmpI n b := by simp [ccmp]
    rw [hv]
    clear hv
    go_enter Try.func5, Try.ntmps5
    go_wp2_with (go_at_call 6; refine (unhide H).mono ?_; rintro e w1 ⟨rfl, hq⟩; obtain rfl := hq.symm; clear hq)
    go_ret
    exact ⟨rfl, rfl⟩
  · have hv : ccmp n s b = s := by simp [ccmp, hs]
    rw [hv]
    clear hv
    go_enter Try.func5, Try.ntmps5
    go_wp2
    go_ret
    exact ⟨rfl, rfl⟩
end Go.Proofs.Qxb6614091a
