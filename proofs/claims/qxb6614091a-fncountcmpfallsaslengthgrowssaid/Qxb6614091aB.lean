import Derived.Test.Qxb6614091aA
namespace Go.Proofs.Qxb6614091a
open Go.RowKit

theorem ret_bool {a b : Bool} (h : a = b) : Ending.returned (.bool a) = .returned (.bool b) := by rw [h]
def ZPost (w : World) (v : Int) (e : Ending) (w' : World) : Prop := e = .returned (.int .i64 v) ∧ Below w.heap.size w w'

set_option maxRecDepth 100000 in
set_option maxHeartbeats 400000 in
theorem zz_any (n s : Int) (k : FloatKind) (f : Nat) (b : Int) (w : World) :
    Calls Try.prog 4 #[.int .i64 n, .int .i64 s, .float k f, .int .i64 b] w (ZPost w (ccmp n s b)) := by
  go_enter Try.func4, Try.ntmps4
  go_wp2_with (go_at_call 5; go_must (refine (cmp_any w.heap.size n s b _ (by rw [cell_of_row _ _ _ _ _ _ (heap_alloc_new w _)]; rfl) (by rw [cell_of_row _ _ _ _ _ _ (heap_alloc_new w _)]; rfl)).mono ?_); rintro e w1 ⟨rfl, hq⟩; have HB : Hid (Below w.heap.size w w1) := by { rw [hq]; exact (Below.refl _ _).alloc (Nat.le_refl _) _ }; clear hq)
  go_ret
  exact ⟨rfl, unhide HB⟩

def LPost (w : World) (e : Ending) (w' : World) : Prop := e = .returned (.bool true) ∧ Below w.heap.size w w'

theorem ccmp_sign {n s b : Int} (h : s ≠ 0) : ccmp n s b = s := by simp [ccmp, h]
theorem ccmp_lt {n b : Int} (h : n < b) : ccmp n 0 b = -1 := by simp [ccmp, cmpI, h]
theorem ccmp_gt {n b : Int} (h : b < n) : ccmp n 0 b = 1 := by simp [ccmp, cmpI, h]; omega
theorem ccmp_eq (n : Int) : ccmp n 0 n = 0 := by simp [ccmp, cmpI]

/-- the two calls, in any order of the lengths -/
theorem two (n s : Int) (k : FloatKind) (f : Nat) (b : Int) (v : Int) (hv : ccmp n s b = v) (w w0 : World) (h0 : Below w.heap.size w w0) :
    Calls Try.prog 4 #[.int .i64 n, .int .i64 s, .float k f, .int .i64 b] w0 fun e w' => e = .returned (.int .i64 v) ∧ Below w.heap.size w w' :=
  (zz_any n s k f b w0).mono fun e w' ⟨h1, h2⟩ => ⟨by rw [h1, hv], h0.trans (h2.mono h0.size)⟩

set_option maxRecDepth 100000 in
set_option maxHeartbeats 3200000 in
theorem law_any (n s x y : Int) (k : FloatKind) (f : Nat) (w : World) :
    Calls Try.prog 3 #[.int .i64 n, .int .i64 s, .float k f, .int .i64 x, .int .i64 y] w (LPost w) := by
  by_cases t1 : s < -1
  · go_enter Try.func3, Try.ntmps3
    go_wp2
    go_ret
    exact ⟨rfl, Below.refl _ _⟩
  by_cases t2 : 1 < s
  · go_enter Try.func3, Try.ntmps3
    go_wp2
    go_ret
    exact ⟨rfl, Below.refl _ _⟩
  by_cases o : y < x
  · by_cases s1 : s = -1
    · subst s1
      have HL := hide (fun w0 h0 => two n (-1) k f y (-1) (ccmp_sign (by decide)) w w0 h0)
      have HH := hide (fun w0 h0 => two n (-1) k f x (-1) (ccmp_sign (by decide)) w w0 h0)
      go_enter Try.func3, Try.ntmps3
      go_wp2_with (first | (go_at_call 4; refine (unhide HL w (Below.refl _ _)).mono ?_; rintro e w1 ⟨rfl, h1⟩; have B1 := hide h1; clear h1 HL) | (go_at_call 4; refine (unhide HH w1 (unhide B1)).mono ?_; rintro e w2 ⟨rfl, h2⟩; have B2 := hide h2; clear h2 HH))
      go_ret
      exact ⟨(by first | rfl | exact ret_bool (by simp [*])), unhide B2⟩
    by_cases s2 : s = 1
    · subst s2
      have HL := hide (fun w0 h0 => two n (1) k f y (1) (ccmp_sign (by decide)) w w0 h0)
      have HH := hide (fun w0 h0 => two n (1) k f x (1) (ccmp_sign (by decide)) w w0 h0)
      go_enter Try.func3, Try.ntmps3
      go_wp2_with (first | (go_at_call 4; refine (unhide HL w (Below.refl _ _)).mono ?_; rintro e w1 ⟨rfl, h1⟩; have B1 := hide h1; clear h1 HL) | (go_at_call 4; refine (unhide HH w1 (unhide B1)).mono ?_; rintro e w2 ⟨rfl, h2⟩; have B2 := hide h2; clear h2 HH))
      go_ret
      exact ⟨(by first | rfl | exact ret_bool (by simp [*])), unhide B2⟩
    obtain rfl : s = 0 := by omega
    by_cases g1 : n < y
    · have g2 : n < x := by omega
      have e1 : ¬ n = y := by omega
      have e2 : ¬ n = x := by omega
      have HL := hide (fun w0 h0 => two n (0) k f y (-1) (ccmp_lt g1) w w0 h0)
      have HH := hide (fun w0 h0 => two n (0) k f x (-1) (ccmp_lt g2) w w0 h0)
      go_enter Try.func3, Try.ntmps3
      go_wp2_with (first | (go_at_call 4; refine (unhide HL w (Below.refl _ _)).mono ?_; rintro e w1 ⟨rfl, h1⟩; have B1 := hide h1; clear h1 HL) | (go_at_call 4; refine (unhide HH w1 (unhide B1)).mono ?_; rintro e w2 ⟨rfl, h2⟩; have B2 := hide h2; clear h2 HH))
      go_ret
      exact ⟨(by first | rfl | exact ret_bool (by simp [*])), unhide B2⟩
    by_cases g3 : y < n
    · by_cases g4 : n < x
      · have e1 : ¬ n = y := by omega
        have e2 : ¬ n = x := by omega
        have HL := hide (fun w0 h0 => two n (0) k f y (1) (ccmp_gt g3) w w0 h0)
        have HH := hide (fun w0 h0 => two n (0) k f x (-1) (ccmp_lt g4) w w0 h0)
        go_enter Try.func3, Try.ntmps3
        go_wp2_with (first | (go_at_call 4; refine (unhide HL w (Below.refl _ _)).mono ?_; rintro e w1 ⟨rfl, h1⟩; have B1 := hide h1; clear h1 HL) | (go_at_call 4; refine (unhide HH w1 (unhide B1)).mono ?_; rintro e w2 ⟨rfl, h2⟩; have B2 := hide h2; clear h2 HH))
        go_ret
        exact ⟨(by first | rfl | exact ret_bool (by simp [*])), unhide B2⟩
      by_cases g5 : x < n
      · have e1 : ¬ n = y := by omega
        have e2 : ¬ n = x := by omega
        have HL := hide (fun w0 h0 => two n (0) k f y (1) (ccmp_gt g3) w w0 h0)
        have HH := hide (fun w0 h0 => two n (0) k f x (1) (ccmp_gt g5) w w0 h0)
        go_enter Try.func3, Try.ntmps3
        go_wp2_with (first | (go_at_call 4; refine (unhide HL w (Below.refl _ _)).mono ?_; rintro e w1 ⟨rfl, h1⟩; have B1 := hide h1; clear h1 HL) | (go_at_call 4; refine (unhide HH w1 (unhide B1)).mono ?_; rintro e w2 ⟨rfl, h2⟩; have B2 := hide h2; clear h2 HH))
        go_ret
        exact ⟨(by first | rfl | exact ret_bool (by simp [*])), unhide B2⟩
      obtain rfl : x = n := by omega
      have e1 : ¬ x = y := by omega
      have HL := hide (fun w0 h0 => two x (0) k f y (1) (ccmp_gt g3) w w0 h0)
      have HH := hide (fun w0 h0 => two x (0) k f x (0) (ccmp_eq _) w w0 h0)
      go_enter Try.func3, Try.ntmps3
      go_wp2_with (first | (go_at_call 4; refine (unhide HL w (Below.refl _ _)).mono ?_; rintro e w1 ⟨rfl, h1⟩; have B1 := hide h1; clear h1 HL) | (go_at_call 4; refine (unhide HH w1 (unhide B1)).mono ?_; rintro e w2 ⟨rfl, h2⟩; have B2 := hide h2; clear h2 HH))
      go_ret
      exact ⟨(by first | rfl | exact ret_bool (by simp [*])), unhide B2⟩
    obtain rfl : y = n := by omega
    by_cases g6 : y < x
    · have e2 : ¬ y = x := by omega
      have HL := hide (fun w0 h0 => two y (0) k f y (0) (ccmp_eq _) w w0 h0)
      have HH := hide (fun w0 h0 => two y (0) k f x (-1) (ccmp_lt g6) w w0 h0)
      go_enter Try.func3, Try.ntmps3
      go_wp2_with (first | (go_at_call 4; refine (unhide HL w (Below.refl _ _)).mono ?_; rintro e w1 ⟨rfl, h1⟩; have B1 := hide h1; clear h1 HL) | (go_at_call 4; refine (unhide HH w1 (unhide B1)).mono ?_; rintro e w2 ⟨rfl, h2⟩; have B2 := hide h2; clear h2 HH))
      go_ret
      exact ⟨(by first | rfl | exact ret_bool (by simp [*])), unhide B2⟩
    obtain rfl : y = x := by omega
    have HL := hide (fun w0 h0 => two y (0) k f y (0) (ccmp_eq _) w w0 h0)
    have HH := hide (fun w0 h0 => two y (0) k f y (0) (ccmp_eq _) w w0 h0)
    go_enter Try.func3, Try.ntmps3
    go_wp2_with (first | (go_at_call 4; refine (unhide HL w (Below.refl _ _)).mono ?_; rintro e w1 ⟨rfl, h1⟩; have B1 := hide h1; clear h1 HL) | (go_at_call 4; refine (unhide HH w1 (unhide B1)).mono ?_; rintro e w2 ⟨rfl, h2⟩; have B2 := hide h2; clear h2 HH))
    go_ret
    exact ⟨(by first | rfl | exact ret_bool (by simp [*])), unhide B2⟩
  · by_cases s1 : s = -1
    · subst s1
      have HL := hide (fun w0 h0 => two n (-1) k f x (-1) (ccmp_sign (by decide)) w w0 h0)
      have HH := hide (fun w0 h0 => two n (-1) k f y (-1) (ccmp_sign (by decide)) w w0 h0)
      go_enter Try.func3, Try.ntmps3
      go_wp2_with (first | (go_at_call 4; refine (unhide HL w (Below.refl _ _)).mono ?_; rintro e w1 ⟨rfl, h1⟩; have B1 := hide h1; clear h1 HL) | (go_at_call 4; refine (unhide HH w1 (unhide B1)).mono ?_; rintro e w2 ⟨rfl, h2⟩; have B2 := hide h2; clear h2 HH))
      go_ret
      exact ⟨(by first | rfl | exact ret_bool (by simp [*])), unhide B2⟩
    by_cases s2 : s = 1
    · subst s2
      have HL := hide (fun w0 h0 => two n (1) k f x (1) (ccmp_sign (by decide)) w w0 h0)
      have HH := hide (fun w0 h0 => two n (1) k f y (1) (ccmp_sign (by decide)) w w0 h0)
      go_enter Try.func3, Try.ntmps3
      go_wp2_with (first | (go_at_call 4; refine (unhide HL w (Below.refl _ _)).mono ?_; rintro e w1 ⟨rfl, h1⟩; have B1 := hide h1; clear h1 HL) | (go_at_call 4; refine (unhide HH w1 (unhide B1)).mono ?_; rintro e w2 ⟨rfl, h2⟩; have B2 := hide h2; clear h2 HH))
      go_ret
      exact ⟨(by first | rfl | exact ret_bool (by simp [*])), unhide B2⟩
    obtain rfl : s = 0 := by omega
    by_cases g1 : n < x
    · have g2 : n < y := by omega
      have e1 : ¬ n = x := by omega
      have e2 : ¬ n = y := by omega
      have HL := hide (fun w0 h0 => two n (0) k f x (-1) (ccmp_lt g1) w w0 h0)
      have HH := hide (fun w0 h0 => two n (0) k f y (-1) (ccmp_lt g2) w w0 h0)
      go_enter Try.func3, Try.ntmps3
      go_wp2_with (first | (go_at_call 4; refine (unhide HL w (Below.refl _ _)).mono ?_; rintro e w1 ⟨rfl, h1⟩; have B1 := hide h1; clear h1 HL) | (go_at_call 4; refine (unhide HH w1 (unhide B1)).mono ?_; rintro e w2 ⟨rfl, h2⟩; have B2 := hide h2; clear h2 HH))
      go_ret
      exact ⟨(by first | rfl | exact ret_bool (by simp [*])), unhide B2⟩
    by_cases g3 : x < n
    · by_cases g4 : n < y
      · have e1 : ¬ n = x := by omega
        have e2 : ¬ n = y := by omega
        have HL := hide (fun w0 h0 => two n (0) k f x (1) (ccmp_gt g3) w w0 h0)
        have HH := hide (fun w0 h0 => two n (0) k f y (-1) (ccmp_lt g4) w w0 h0)
        go_enter Try.func3, Try.ntmps3
        go_wp2_with (first | (go_at_call 4; refine (unhide HL w (Below.refl _ _)).mono ?_; rintro e w1 ⟨rfl, h1⟩; have B1 := hide h1; clear h1 HL) | (go_at_call 4; refine (unhide HH w1 (unhide B1)).mono ?_; rintro e w2 ⟨rfl, h2⟩; have B2 := hide h2; clear h2 HH))
        go_ret
        exact ⟨(by first | rfl | exact ret_bool (by simp [*])), unhide B2⟩
      by_cases g5 : y < n
      · have e1 : ¬ n = x := by omega
        have e2 : ¬ n = y := by omega
        have HL := hide (fun w0 h0 => two n (0) k f x (1) (ccmp_gt g3) w w0 h0)
        have HH := hide (fun w0 h0 => two n (0) k f y (1) (ccmp_gt g5) w w0 h0)
        go_enter Try.func3, Try.ntmps3
        go_wp2_with (first | (go_at_call 4; refine (unhide HL w (Below.refl _ _)).mono ?_; rintro e w1 ⟨rfl, h1⟩; have B1 := hide h1; clear h1 HL) | (go_at_call 4; refine (unhide HH w1 (unhide B1)).mono ?_; rintro e w2 ⟨rfl, h2⟩; have B2 := hide h2; clear h2 HH))
        go_ret
        exact ⟨(by first | rfl | exact ret_bool (by simp [*])), unhide B2⟩
      obtain rfl : y = n := by omega
      have e1 : ¬ y = x := by omega
      have HL := hide (fun w0 h0 => two y (0) k f x (1) (ccmp_gt g3) w w0 h0)
      have HH := hide (fun w0 h0 => two y (0) k f y (0) (ccmp_eq _) w w0 h0)
      go_enter Try.func3, Try.ntmps3
      go_wp2_with (first | (go_at_call 4; refine (unhide HL w (Below.refl _ _)).mono ?_; rintro e w1 ⟨rfl, h1⟩; have B1 := hide h1; clear h1 HL) | (go_at_call 4; refine (unhide HH w1 (unhide B1)).mono ?_; rintro e w2 ⟨rfl, h2⟩; have B2 := hide h2; clear h2 HH))
      go_ret
      exact ⟨(by first | rfl | exact ret_bool (by simp [*])), unhide B2⟩
    obtain rfl : x = n := by omega
    by_cases g6 : x < y
    · have e2 : ¬ x = y := by omega
      have HL := hide (fun w0 h0 => two x (0) k f x (0) (ccmp_eq _) w w0 h0)
      have HH := hide (fun w0 h0 => two x (0) k f y (-1) (ccmp_lt g6) w w0 h0)
      go_enter Try.func3, Try.ntmps3
      go_wp2_with (first | (go_at_call 4; refine (unhide HL w (Below.refl _ _)).mono ?_; rintro e w1 ⟨rfl, h1⟩; have B1 := hide h1; clear h1 HL) | (go_at_call 4; refine (unhide HH w1 (unhide B1)).mono ?_; rintro e w2 ⟨rfl, h2⟩; have B2 := hide h2; clear h2 HH))
      go_ret
      exact ⟨(by first | rfl | exact ret_bool (by simp [*])), unhide B2⟩
    obtain rfl : x = y := by omega
    have HL := hide (fun w0 h0 => two x (0) k f x (0) (ccmp_eq _) w w0 h0)
    have HH := hide (fun w0 h0 => two x (0) k f x (0) (ccmp_eq _) w w0 h0)
    go_enter Try.func3, Try.ntmps3
    go_wp2_with (first | (go_at_call 4; refine (unhide HL w (Below.refl _ _)).mono ?_; rintro e w1 ⟨rfl, h1⟩; have B1 := hide h1; clear h1 HL) | (go_at_call 4; refine (unhide HH w1 (unhide B1)).mono ?_; rintro e w2 ⟨rfl, h2⟩; have B2 := hide h2; clear h2 HH))
    go_ret
    exact ⟨(by first | rfl | exact ret_bool (by simp [*])), unhide B2⟩
end Go.Proofs.Qxb6614091a
