import Derived.Test.Qxb6613626aLeafB
namespace Go.Proofs.Qxb6613626a
open Go.RowKit

/-! zzKeysOK -/
/-- the answer is a bool; at 'true' p holds; the world has at most drawn. -/
def OkPost (w : World) (p : Prop) (e : Ending) (w' : World) : Prop := ∃ r, e = .returned (.bool r) ∧ (∃ q, w' = w.drewN q) ∧ (r = true → p)
theorem OkPost.no {w : World} {p : Prop} (q : Nat) : OkPost w p (.returned (.bool false)) (w.drewN q) := ⟨_, rfl, ⟨q, rfl⟩, fun h => by cases h⟩
theorem OkPost.no0 {w : World} {p : Prop} : OkPost w p (.returned (.bool false)) w := ⟨_, rfl, ⟨0, rfl⟩, fun h => by cases h⟩
theorem OkPost.yes {w : World} {p : Prop} (q : Nat) (h : p) : OkPost w p (.returned (.bool true)) (w.drewN q) := ⟨_, rfl, ⟨q, rfl⟩, fun _ => h⟩
theorem OkPost.yes0 {w : World} {p : Prop} (h : p) : OkPost w p (.returned (.bool true)) w := ⟨_, rfl, ⟨0, rfl⟩, fun _ => h⟩
def KeysP (S : Nat → ByteArray) (Z : Nat → Nat → Int) (L : Nat → Nat) (n n1 m : Nat) : Prop :=
  n ≤ 4096 ∧ n1 = m ∧ (∀ i j, i < j → j < n → sEq (S i) (S j) = false) ∧ ∀ i, i < m → idxIn (Z i) (L i) n = true
set_option maxHeartbeats 800000 in
theorem zzKeysOK_any (S : Nat → ByteArray) (Z : Nat → Nat → Int) (A : Nat → Option Addr) (L C : Nat → Nat) (Bk Of : Nat → Nat) (a0 a1 a2 : Option Addr) (n c0 n1 c1 m c2 b0 o0 b2 o2 : Nat) (w : World) (hn : n ≤ 9223372036854775806) (hm : m ≤ 9223372036854775806)
    (ha0 : 0 < n → a0 = some ⟨b0, o0, none⟩) (hc0 : ∀ i, i < n → w.cell? ⟨b0, o0 + i, none⟩ = some (.string (S i)))
    (ha2 : 0 < m → a2 = some ⟨b2, o2, none⟩) (hc2 : ∀ i, i < m → w.cell? ⟨b2, o2 + i, none⟩ = some (.slice (A i) (L i) (C i)))
    (hL : ∀ i, i < m → L i ≤ 9223372036854775806) (hA : ∀ i, i < m → 0 < L i → A i = some ⟨Bk i, Of i, none⟩) (hZ : ∀ i, i < m → ∀ k, k < L i → w.cell? ⟨Bk i, Of i + k, none⟩ = some (.int .i64 (Z i k))) :
    Calls Try.prog 9 #[.slice a0 n c0, .slice a1 n1 c1, .slice a2 m c2] w fun e w' => OkPost w (KeysP S Z L n n1 m) e w' := by
  have HA := hide hA
  have HZ := hide hZ
  have HL := hide hL
  clear hA hZ hL
  by_cases hbig : (4096 : Int) < (n : Int)
  · go_enter Try.func9, Try.ntmps9
    go_wp2_with fail
    go_ret
    exact OkPost.no0
  by_cases hne : n1 = m
  case neg =>
    have hd : ((n1 : Int) != (m : Int)) = true := by rw [bne_iff_ne]; omega
    go_enter Try.func9, Try.ntmps9
    go_wp2_with fail
    go_ret
    exact OkPost.no0
  subst hne
  go_enter Try.func9, Try.ntmps9
  go_wp2_with fail
  refine (zzDistinct_any S a0 n c0 b0 o0 _ hn ha0 hc0).mono ?_
  rintro e w' ⟨r, rfl, ⟨q, rfl⟩, hr⟩
  cases r with
  | false =>
    clear hr
    go_wp2_with fail
    go_ret
    exact OkPost.no _
  | true =>
    have HR := hide (unhide hr rfl)
    clear hr
    go_wp2_with fail
    go_loopw [7] (fun i wr => ∃ k : Nat, k ≤ n1 ∧ i = .int .i64 k ∧ wr = w.drewN q ∧ Hid (∀ i, i < k → idxIn (Z i) (L i) n = true)) (fun i _ => n1 - (intOf i).toNat)
    case atStart => exact ⟨0, Nat.zero_le _, rfl, rfl, fun j hj => absurd hj (by omega)⟩
    case round =>
      obtain ⟨k, hk, rfl, rfl, hno⟩ := hrel
      by_cases hlt : k < n1
      · obtain rfl := ha2 (by omega)
        have hck := hc2 k hlt
        clear ha2
        go_wp2_with fail
        refine (zzIndicesIn_any (Z k) _ _ _ _ (Bk k) (Of k) (w.drewN q) (unhide HL k hlt) (unhide HA k hlt) (fun i hi => unhide HZ k hlt i hi)).mono ?_
        rintro e w' ⟨rfl, rfl⟩
        cases hh : idxIn (Z k) (L k) n with
        | false =>
          have HH := hide hh
          clear hh
          go_wp2_with fail
          go_ret
          exact OkPost.no _
        | true =>
          have HH := hide hh
          clear hh
          go_wp2_with fail
          go_roundw
          case rel => exact ⟨k + 1, by omega, by go_num, by simp, fun i hi => by
            by_cases e : i = k
            · subst e; exact unhide HH
            · exact hno i (by omega)⟩
          case measure => simp [intOf]; omega
      · go_wp2_with fail
        go_ret
        exact OkPost.yes _ ⟨by omega, rfl, unhide HR, fun i hi => hno i (by omega)⟩
end Go.Proofs.Qxb6613626a
