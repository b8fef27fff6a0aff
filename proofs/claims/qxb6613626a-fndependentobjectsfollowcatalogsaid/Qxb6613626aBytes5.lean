import Derived.Test.Qxb6613626aBytes
namespace Go.Proofs.Qxb6613626a
open Go.RowKit

def BytesP5 (L : Nat → Nat) (n n1 m n3 : Nat) : Prop := n ≤ 1048576 ∧ n1 ≤ 1048576 ∧ m ≤ 1048576 ∧ n3 ≤ 1048576 ∧ ∀ i, i < m → L i ≤ 1048576

set_option maxHeartbeats 1600000 in
theorem zzBytes5_any (S T U : Nat → ByteArray) (A : Nat → Option Addr) (L C : Nat → Nat) (a0 a1 a2 a3 : Option Addr) (n c0 n1 c1 m c2 n3 c3 b0 o0 b1 o1 b2 o2 b3 o3 : Nat) (j : Int) (w : World)
    (ha0 : 0 < n → a0 = some ⟨b0, o0, none⟩) (hc0 : ∀ i, i < n → w.cell? ⟨b0, o0 + i, none⟩ = some (.string (S i)))
    (ha1 : 0 < n1 → a1 = some ⟨b1, o1, none⟩) (hc1 : ∀ i, i < n1 → w.cell? ⟨b1, o1 + i, none⟩ = some (.string (T i)))
    (ha2 : 0 < m → a2 = some ⟨b2, o2, none⟩) (hc2 : ∀ i, i < m → w.cell? ⟨b2, o2 + i, none⟩ = some (.slice (A i) (L i) (C i)))
    (ha3 : 0 < n3 → a3 = some ⟨b3, o3, none⟩) (hc3 : ∀ i, i < n3 → w.cell? ⟨b3, o3 + i, none⟩ = some (.string (U i))) :
    Calls Try.prog 20 #[.slice a0 n c0, .slice a1 n1 c1, .slice a2 m c2, .slice a3 n3 c3, .int .i64 j] w fun e w' => OkPost w (BytesP5 L n n1 m n3) e w' := by
  by_cases h0 : (1048576 : Int) < (n : Int)
  · go_enter Try.func20, Try.ntmps20
    go_wp2
    go_ret
    exact OkPost.no0
  have hd0 : decide ((1048576 : Int) < (n : Int)) = false := by simpa using h0
  go_enter Try.func20, Try.ntmps20
  go_wp2
  go_loop [11, 12] (fun s i => ∃ (k : Nat) (q : Int), k ≤ n ∧ i = .int .i64 k ∧ s = .int .i64 q ∧ 0 ≤ q ∧ q ≤ 1048576) (fun _ i => n - (intOf i).toNat)
  case atStart => exact ⟨0, n, Nat.zero_le _, rfl, rfl, by omega, by omega⟩
  case round =>
    obtain ⟨k, q, hk, rfl, rfl, hq0, hq1⟩ := hrel
    by_cases hlt : k < n
    · obtain rfl := ha0 (by omega)
      have hck := hc0 k hlt
      clear ha0
      by_cases hs : (1048576 : Int) < ((S k).size : Int)
      · go_wp2
        go_ret
        exact OkPost.no0
      · by_cases hs2 : (1048576 : Int) < q + ((S k).size : Int)
        · go_wp2
          go_ret
          exact OkPost.no0
        · go_wp2
          go_round
          case rel => exact ⟨k + 1, q + ((S k).size : Int), by omega, by go_num, by go_num, by omega, by omega⟩
          case measure => simp [intOf]; omega
    · clear ha0 hc0
      by_cases h1 : (1048576 : Int) < (n1 : Int)
      · go_wp2
        go_ret
        exact OkPost.no0
      by_cases h1' : (1048576 : Int) < q + (n1 : Int)
      · go_wp2
        go_ret
        exact OkPost.no0
      have hd1 : decide ((1048576 : Int) < (n1 : Int)) = false := by simpa using h1
      have hd1' : decide ((1048576 : Int) < q + (n1 : Int)) = false := by simpa using h1'
      have hdk : decide ((k : Int) < (n : Int)) = false := by simp; omega
      go_wp2
      go_loop [11, 13] (fun s i => ∃ (k : Nat) (q : Int), k ≤ n1 ∧ i = .int .i64 k ∧ s = .int .i64 q ∧ 0 ≤ q ∧ q ≤ 1048576) (fun _ i => n1 - (intOf i).toNat)
      case atStart => exact ⟨0, q + n1, Nat.zero_le _, rfl, rfl, by omega, by omega⟩
      case round =>
        obtain ⟨l, r, hl, rfl, rfl, hr0, hr1⟩ := hrel
        by_cases hlt1 : l < n1
        · obtain rfl := ha1 (by omega)
          have hck := hc1 l hlt1
          clear ha1
          by_cases hs : (1048576 : Int) < ((T l).size : Int)
          · go_wp2
            go_ret
            exact OkPost.no0
          · by_cases hs2 : (1048576 : Int) < r + ((T l).size : Int)
            · go_wp2
              go_ret
              exact OkPost.no0
            · go_wp2
              go_round
              case rel => exact ⟨l + 1, r + ((T l).size : Int), by omega, by go_num, by go_num, by omega, by omega⟩
              case measure => simp [intOf]; omega
        · clear ha1 hc1
          by_cases h2 : (1048576 : Int) < (m : Int)
          · go_wp2
            go_ret
            exact OkPost.no0
          by_cases h2' : (1048576 : Int) < r + (m : Int)
          · go_wp2
            go_ret
            exact OkPost.no0
          have hd2 : decide ((1048576 : Int) < (m : Int)) = false := by simpa using h2
          have hd2' : decide ((1048576 : Int) < r + (m : Int)) = false := by simpa using h2'
          have hdl : decide ((l : Int) < (n1 : Int)) = false := by simp; omega
          go_wp2
          go_loop [11, 14] (fun s i => ∃ (k : Nat) (q : Int), k ≤ m ∧ i = .int .i64 k ∧ s = .int .i64 q ∧ 0 ≤ q ∧ q ≤ 1048576 ∧ Hid (∀ i, i < k → L i ≤ 1048576)) (fun _ i => m - (intOf i).toNat)
          case atStart => exact ⟨0, r + m, Nat.zero_le _, rfl, rfl, by omega, by omega, fun i hi => absurd hi (by omega)⟩
          case round =>
            obtain ⟨t, u, ht, rfl, rfl, hu0, hu1, hno⟩ := hrel
            by_cases hlt2 : t < m
            · obtain rfl := ha2 (by omega)
              have hck := hc2 t hlt2
              clear ha2
              by_cases hs : (1048576 : Int) < (L t : Int)
              · go_wp2
                go_ret
                exact OkPost.no0
              · by_cases hs2 : (1048576 : Int) < u + (L t : Int)
                · go_wp2
                  go_ret
                  exact OkPost.no0
                · go_wp2
                  go_round
                  case rel => exact ⟨t + 1, u + (L t : Int), by omega, by go_num, by go_num, by omega, by omega, fun i hi => by
                    by_cases e : i = t
                    · subst e; omega
                    · exact hno i (by omega)⟩
                  case measure => simp [intOf]; omega
            · clear ha2 hc2
              have HN : Hid (∀ i, i < m → L i ≤ 1048576) := fun i hi => hno i (by omega)
              by_cases h3 : (1048576 : Int) < (n3 : Int)
              · go_wp2
                go_ret
                exact OkPost.no0
              by_cases h3' : (1048576 : Int) < u + (n3 : Int)
              · go_wp2
                go_ret
                exact OkPost.no0
              have hd3 : decide ((1048576 : Int) < (n3 : Int)) = false := by simpa using h3
              have hd3' : decide ((1048576 : Int) < u + (n3 : Int)) = false := by simpa using h3'
              have hdt : decide ((t : Int) < (m : Int)) = false := by simp; omega
              go_wp2
              go_loop [11, 15] (fun s i => ∃ (k : Nat) (q : Int), k ≤ n3 ∧ i = .int .i64 k ∧ s = .int .i64 q ∧ 0 ≤ q ∧ q ≤ 1048576) (fun _ i => n3 - (intOf i).toNat)
              case atStart => exact ⟨0, u + n3, Nat.zero_le _, rfl, rfl, by omega, by omega⟩
              case round =>
                obtain ⟨x, y, hx, rfl, rfl, hy0, hy1⟩ := hrel
                by_cases hlt3 : x < n3
                · obtain rfl := ha3 (by omega)
                  have hck := hc3 x hlt3
                  clear ha3
                  by_cases hs : (1048576 : Int) < ((U x).size : Int)
                  · go_wp2
                    go_ret
                    exact OkPost.no0
                  · by_cases hs2 : (1048576 : Int) < y + ((U x).size : Int)
                    · go_wp2
                      go_ret
                      exact OkPost.no0
                    · go_wp2
                      go_round
                      case rel => exact ⟨x + 1, y + ((U x).size : Int), by omega, by go_num, by go_num, by omega, by omega⟩
                      case measure => simp [intOf]; omega
                · go_wp2
                  go_ret
                  exact OkPost.yes0 ⟨by omega, by omega, by omega, by omega, unhide HN⟩
end Go.Proofs.Qxb6613626a
