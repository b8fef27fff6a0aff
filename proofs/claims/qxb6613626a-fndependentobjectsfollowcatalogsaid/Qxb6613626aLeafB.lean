import Derived.Test.Qxb6613626aLeaf
namespace Go.Proofs.Qxb6613626a
open Go.RowKit

/-- the walk's own '==' of two strings -/
def sEq (x y : ByteArray) : Bool := x.toList == y.toList

set_option maxHeartbeats 400000 in
theorem zzDistinct_any (S : Nat → ByteArray) (a : Option Addr) (n c b off : Nat) (w : World) (hn : n ≤ 9223372036854775806) (ha : 0 < n → a = some ⟨b, off, none⟩)
    (hc : ∀ i, i < n → w.cell? ⟨b, off + i, none⟩ = some (.string (S i))) :
    Calls Try.prog 25 #[.slice a n c] w fun e w' => ∃ r, e = .returned (.bool r) ∧ (∃ m, w' = w.drewN m) ∧ Hid (r = true → ∀ i j, i < j → j < n → sEq (S i) (S j) = false) := by
  go_enter Try.func25, Try.ntmps25
  go_wp2
  go_loopw [3] (fun i wr => ∃ k m : Nat, k ≤ n ∧ i = .int .i64 k ∧ wr = w.drewN m ∧ Hid (∀ i j, i < k → i < j → j < n → sEq (S i) (S j) = false)) (fun i _ => n - (intOf i).toNat)
  case atStart => exact ⟨0, 0, Nat.zero_le _, rfl, rfl, fun i j hi => absurd hi (by omega)⟩
  case round =>
    obtain ⟨k, m, hk, rfl, rfl, hno⟩ := hrel
    by_cases hlt : k < n
    · obtain rfl := ha (by omega)
      have hck := hc k hlt
      clear ha
      go_wp2
      go_loopw [4] (fun i wr => ∃ l m : Nat, l ≤ n ∧ k < l ∧ i = .int .i64 l ∧ wr = w.drewN m ∧ Hid (∀ j, k < j → j < l → sEq (S k) (S j) = false)) (fun i _ => n - (intOf i).toNat)
      case atStart => exact ⟨k + 1, m, by omega, by omega, by go_num, rfl, fun j hj hj2 => absurd hj (by omega)⟩
      case round =>
        obtain ⟨l, m', hl, hkl, rfl, rfl, hno2⟩ := hrel
        by_cases hlt2 : l < n
        · have hcl := hc l hlt2
          have b1 : (0 : Int) ≤ (k : Int) := by omega
          have b2 : (k : Int) < (n : Int) := by omega
          have b3 : (0 : Int) ≤ (l : Int) := by omega
          have b4 : (l : Int) < (n : Int) := by omega
          go_wp2
          go_quiet (fail)
          go_wp2
          · go_ret
            exact ⟨_, rfl, ⟨m' + nq, World.drewN_drewN _ _ _⟩, fun h => by cases h⟩
          · have hne : ((S k).toList == (S l).toList) = false := by assumption
            go_roundw
            case rel => exact ⟨l + 1, _, by omega, by omega, by go_num, rfl, fun j h1 h2 => by
              by_cases e : j = l
              · subst e; exact hne
              · exact hno2 j h1 (by omega)⟩
            case measure => simp [intOf]; omega
        · go_wp2
          go_roundw
          case rel => exact ⟨k + 1, _, by omega, by go_num, rfl, fun i j h1 h2 h3 => by
            by_cases e : i = k
            · subst e; exact hno2 j h2 (by omega)
            · exact hno i j (by omega) h2 h3⟩
          case measure => simp [intOf]; omega
    · go_wp2
      go_ret
      exact ⟨_, rfl, ⟨m, rfl⟩, fun _ i j hi hj => hno i j (by omega) hi hj⟩

/-! zzInKeyOf, the primary keys alone | any key -/
def PK : List UInt8 := [80, 82, 73, 77, 65, 82, 89, 32, 75, 69, 89]
def isPK (s : ByteArray) : Bool := s.toList == [80, 82, 73, 77, 65, 82, 89, 32, 75, 69, 89]
def inKey (T : Nat → ByteArray) (Z : Nat → Nat → Int) (L : Nat → Nat) (m : Nat) (j : Int) (only : Bool) : Bool :=
  (List.range m).any fun i => (!only || isPK (T i)) && has (Z i) (L i) j
theorem inKey_hit {T : Nat → ByteArray} {Z : Nat → Nat → Int} {L : Nat → Nat} {m k : Nat} {j : Int} {only : Bool} (hk : k < m) (h1 : (!only || isPK (T k)) = true) (h2 : has (Z k) (L k) j = true) : inKey T Z L m j only = true := by
  unfold inKey; rw [List.any_eq_true]; exact ⟨k, by simpa using hk, by rw [h1, h2]; rfl⟩
theorem inKey_none {T : Nat → ByteArray} {Z : Nat → Nat → Int} {L : Nat → Nat} {m : Nat} {j : Int} {only : Bool} (h : ∀ i, i < m → ((!only || isPK (T i)) && has (Z i) (L i) j) = false) : inKey T Z L m j only = false := by
  unfold inKey; rw [List.any_eq_false]; intro i hi; rw [h i (by simpa using hi)]; simp

set_option maxHeartbeats 800000 in
theorem zzInKeyOf_any (T : Nat → ByteArray) (Z : Nat → Nat → Int) (A : Nat → Option Addr) (L C : Nat → Nat) (Bk Of : Nat → Nat) (j : Int) (only : Bool) (a1 a2 : Option Addr) (m c1 c2 b1 o1 b2 o2 : Nat) (w : World) (hn : m ≤ 9223372036854775806)
    (ha1 : 0 < m → a1 = some ⟨b1, o1, none⟩) (hc1 : ∀ i, i < m → w.cell? ⟨b1, o1 + i, none⟩ = some (.string (T i)))
    (ha2 : 0 < m → a2 = some ⟨b2, o2, none⟩) (hc2 : ∀ i, i < m → w.cell? ⟨b2, o2 + i, none⟩ = some (.slice (A i) (L i) (C i)))
    (hL : ∀ i, i < m → L i ≤ 9223372036854775806) (hA : ∀ i, i < m → 0 < L i → A i = some ⟨Bk i, Of i, none⟩) (hZ : ∀ i, i < m → ∀ k, k < L i → w.cell? ⟨Bk i, Of i + k, none⟩ = some (.int .i64 (Z i k))) :
    Calls Try.prog 18 #[.slice a1 m c1, .slice a2 m c2, .int .i64 j, .bool only] w fun e w' => e = .returned (.bool (inKey T Z L m j only)) ∧ w' = w := by
  have HA := hide hA
  have HZ := hide hZ
  have HL := hide hL
  clear hA hZ hL
  cases only with
  | false =>
    go_enter Try.func18, Try.ntmps18
    go_wp2
    go_loop [9] (fun i => ∃ k : Nat, k ≤ m ∧ i = .int .i64 k ∧ Hid (∀ i, i < k → ((!false || isPK (T i)) && has (Z i) (L i) j) = false)) (fun i => m - (intOf i).toNat)
    case atStart => exact ⟨0, Nat.zero_le _, rfl, fun j hj => absurd hj (by omega)⟩
    case round =>
      obtain ⟨k, hk, rfl, hno⟩ := hrel
      by_cases hlt : k < m
      · obtain rfl := ha1 (by omega)
        obtain rfl := ha2 (by omega)
        have hck1 := hc1 k hlt
        have hck2 := hc2 k hlt
        clear ha1 ha2
        cases hh : has (Z k) (L k) j with
        | true =>
          have HH := hide hh
          clear hh
          go_wp2_with (go_at_call 30; refine (zzHas_any (Z k) _ _ _ _ (Bk k) (Of k) _ (unhide HL k hlt) (unhide HA k hlt) (unhide HZ k hlt)).mono ?_; rintro e w' ⟨rfl, rfl⟩; rw [unhide HH])
          go_ret
          exact ⟨ret_bool (inKey_hit hlt rfl (unhide HH)).symm, rfl⟩
        | false =>
          have HH := hide hh
          clear hh
          go_wp2_with (go_at_call 30; refine (zzHas_any (Z k) _ _ _ _ (Bk k) (Of k) _ (unhide HL k hlt) (unhide HA k hlt) (unhide HZ k hlt)).mono ?_; rintro e w' ⟨rfl, rfl⟩; rw [unhide HH])
          go_round
          case rel => exact ⟨k + 1, by omega, by go_num, fun i hi => by
            by_cases e : i = k
            · subst e; rw [unhide HH]; rfl
            · exact hno i (by omega)⟩
          case measure => simp [intOf]; omega
      · go_wp2
        go_ret
        exact ⟨ret_bool (inKey_none fun i hi => hno i (by omega)).symm, rfl⟩
  | true =>
    go_enter Try.func18, Try.ntmps18
    go_wp2
    go_loop [9] (fun i => ∃ k : Nat, k ≤ m ∧ i = .int .i64 k ∧ Hid (∀ i, i < k → ((!true || isPK (T i)) && has (Z i) (L i) j) = false)) (fun i => m - (intOf i).toNat)
    case atStart => exact ⟨0, Nat.zero_le _, rfl, fun j hj => absurd hj (by omega)⟩
    case round =>
      obtain ⟨k, hk, rfl, hno⟩ := hrel
      by_cases hlt : k < m
      · obtain rfl := ha1 (by omega)
        obtain rfl := ha2 (by omega)
        have hck1 := hc1 k hlt
        have hck2 := hc2 k hlt
        clear ha1 ha2
        cases hp : ((T k).toList == [80, 82, 73, 77, 65, 82, 89, 32, 75, 69, 89]) with
        | false =>
          go_wp2
          go_round
          case rel => exact ⟨k + 1, by omega, by go_num, fun i hi => by
            by_cases e : i = k
            · subst e
              have : isPK (T i) = false := hp
              rw [this]; rfl
            · exact hno i (by omega)⟩
          case measure => simp [intOf]; omega
        | true =>
        cases hh : has (Z k) (L k) j with
        | true =>
          have HH := hide hh
          clear hh
          go_wp2_with (go_at_call 30; refine (zzHas_any (Z k) _ _ _ _ (Bk k) (Of k) _ (unhide HL k hlt) (unhide HA k hlt) (unhide HZ k hlt)).mono ?_; rintro e w' ⟨rfl, rfl⟩; rw [unhide HH])
          go_ret
          exact ⟨ret_bool (inKey_hit (T := T) (Z := Z) (L := L) (only := true) hlt hp (unhide HH)).symm, rfl⟩
        | false =>
          have HH := hide hh
          clear hh
          go_wp2_with (go_at_call 30; refine (zzHas_any (Z k) _ _ _ _ (Bk k) (Of k) _ (unhide HL k hlt) (unhide HA k hlt) (unhide HZ k hlt)).mono ?_; rintro e w' ⟨rfl, rfl⟩; rw [unhide HH])
          go_round
          case rel => exact ⟨k + 1, by omega, by go_num, fun i hi => by
            by_cases e : i = k
            · subst e; rw [unhide HH]; simp
            · exact hno i (by omega)⟩
          case measure => simp [intOf]; omega
      · go_wp2
        go_ret
        exact ⟨ret_bool (inKey_none fun i hi => hno i (by omega)).symm, rfl⟩
end Go.Proofs.Qxb6613626a
