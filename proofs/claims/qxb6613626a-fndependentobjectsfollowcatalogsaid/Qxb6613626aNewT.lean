import Derived.Test.Qxb6613626aTab2
import Derived.Deep.DeepMust
import Derived.Deep.RegionLaw
namespace Go.Proofs.Qxb6613626a
open Go.RowKit Go.Maps

theorem Try.info34 : (Try.prog.info? 34).map (fun i => (i.zero, i.size, i.bytes)) = some (some (.pointer none), 1, 8) := by kernel_rfl
theorem Try.info62 : (Try.prog.info? 62).map (fun i => (i.zero, i.size, i.bytes)) = some (some (.pointer none), 1, 8) := by kernel_rfl
theorem ptr_oneCell (b : Nat) : ∀ u ∈ [ptrTo b], u.oneCell' = true := by intro u hu; simp at hu; subst hu; rfl

def NewPost (w : World) (S T : Nat → ByteArray) (Z : Nat → Nat → Int) (L : Nat → Nat) (n m : Nat) (e : Ending) (w' : World) : Prop :=
  e = .returned (ptrTo (w.heap.size + 1)) ∧ ∃ w1 ov cols kv kbs, Tab1 w.heap.size w w1 S n ov cols ∧ Tab2 w.heap.size w1.heap.size w w1 w' T Z L cols ov m kv kbs

set_option maxRecDepth 100000 in
set_option maxHeartbeats 1600000 in
theorem newTable_any (S T : Nat → ByteArray) (Z : Nat → Nat → Int) (A : Nat → Option Addr) (L C Bk Of : Nat → Nat) (a0 a1 a2 : Option Addr) (n c0 m c1 c2 b0 o0 b1 o1 b2 o2 : Nat) (w : World) (hn : n ≤ 4096) (hm : m ≤ 1048576)
    (hb0 : 0 < n → b0 < w.heap.size) (hb1 : 0 < m → b1 < w.heap.size) (hb2 : 0 < m → b2 < w.heap.size) (hBk : ∀ i, i < m → 0 < L i → Bk i < w.heap.size) (hS : ∀ i, i < n → (S i).size ≤ maxLen) (hL : ∀ i, i < m → L i ≤ 1048576)
    (ha0 : 0 < n → a0 = some ⟨b0, o0, none⟩) (hc0 : ∀ i, i < n → w.cell? ⟨b0, o0 + i, none⟩ = some (.string (S i)))
    (ha1 : 0 < m → a1 = some ⟨b1, o1, none⟩) (hc1 : ∀ i, i < m → w.cell? ⟨b1, o1 + i, none⟩ = some (.string (T i)))
    (ha2 : 0 < m → a2 = some ⟨b2, o2, none⟩) (hc2 : ∀ i, i < m → w.cell? ⟨b2, o2 + i, none⟩ = some (.slice (A i) (L i) (C i)))
    (hA : ∀ i, i < m → 0 < L i → A i = some ⟨Bk i, Of i, none⟩) (hZ : ∀ i, i < m → ∀ k, k < L i → w.cell? ⟨Bk i, Of i + k, none⟩ = some (.int .i64 (Z i k)))
    (hI : ∀ i, i < m → ∀ k, k < L i → 0 ≤ Z i k ∧ Z i k < n) :
    Calls Try.prog 12 #[.slice a0 n c0, .slice a1 m c1, .slice a2 m c2, .slice none 0 0, .slice none 0 0, .slice none 0 0] w fun e w' => NewPost w S T Z L n m e w' := by
  have hmm := @run_makeMap Try.prog
  obtain ⟨i0, hi, hz0, hz1, hz2⟩ := info_parts Try.info34
  have HS := hide hS
  have H0 := hide (And.intro ha0 hc0)
  have H1 := hide (And.intro ha1 hc1)
  have H2 := hide (And.intro ha2 hc2)
  have HA := hide hA
  have HZ := hide hZ
  have HI := hide hI
  have HL := hide hL
  have HB := hide hBk
  clear hS ha0 hc0 ha1 hc1 ha2 hc2 hA hZ hI hL hBk
  go_enter Try.func12, Try.ntmps12
  go_wp2_with fail
  clear hmm
  go_loopw [31] (fun i wr => ∃ (k : Nat) (ov : Value) (cols : List Nat), k ≤ n ∧ i = .int .i64 k ∧ Hid (Tab1 w.heap.size w wr S k ov cols)) (fun i _ => n - (intOf i).toNat)
  case atStart => exact ⟨0, nilS, [], Nat.zero_le _, rfl, tab1_start w S⟩
  case round =>
    obtain ⟨k, ov, cols, hk, rfl, HT⟩ := hrel
    by_cases hlt : k < n
    · obtain rfl := (unhide H0).1 (by omega)
      have hck : wr.cell? ⟨b0, o0 + k, none⟩ = some (.string (S k)) := ((unhide HT).bel.cell (p := ⟨b0, o0 + k, none⟩) (hb0 (by omega))).trans ((unhide H0).2 k hlt)
      have hT0 : wr.cell? ⟨w.heap.size + 1, 0, none⟩ = some (.map (some w.heap.size)) := by rw [cell_of_row _ _ _ _ _ _ (unhide HT).hT]; rfl
      have hTl : w.heap.size + 1 < wr.heap.size := (unhide HT).sz
      obtain ⟨D, hmap, hD⟩ := (unhide HT).map
      have HM := hide hmap
      have HD := hide hD
      clear hmap hD
      go_wp2_with (first
        | (at_mapUpdate; go_must (refine wpList_mapUpdate_own _ rfl _ _ _ 51 rfl 9 34 law9 Try.underlying51 ptrElem w.heap.size k D rfl ((unhide HM).alloc _) (by unfold maxLen; omega) _ _ _ rfl rfl (WideMaps.keyOf_string_mk Try.underlying9 (unhide HS k hlt)) _ [] (ptrElem_mk _) ?_); intro w1 hm1 hg1; have HM1 := hide hm1; clear hm1; have HG1 := hide hg1; clear hg1; have hc1 : w1.cell? ⟨w.heap.size + 1, 1, none⟩ = some ov := by { rw [cell_of_row _ _ _ _ _ _ (tab1_mid (unhide HT) (unhide HG1)).1]; rfl }; have hl1 : w.heap.size + 1 < w1.heap.size := by { have := (tab1_mid (unhide HT) (unhide HG1)).2.2.1; omega })
        | (at_builtin; go_must (refine wpList_append_lies _ rfl _ _ 32 rfl (w.heap.size + 2) 34 i0 (.pointer none) 1 8 Try.underlying32 hi hz0 hz1 hz2 rfl (by decide) ov k _ (by rfl) ((tab1_mid (unhide HT) (unhide HG1)).2.1.alloc _) ⟨w1.heap.size, 0, none⟩ 1 1 [ptrTo wr.heap.size] (by rfl) rfl (cell_one_new _ _ _) (ptr_oneCell _) (by omega) (by unfold maxLen; omega) (by omega) (by simp; omega) (w1.heap.size + 1) (by simp) ?_); intro g cap w2 hown2 hg2 _ _; have HO2 := hide hown2; clear hown2; have HG2 := hide hg2; clear hg2; have hc2 : w2.cell? ⟨w.heap.size + 1, 1, none⟩ = some ov := by { rw [cell_of_row _ _ _ _ _ _ (tab1_mid2 (unhide HT) (unhide HG1) (unhide HG2))]; rfl }; have hf2 : w2.frozen? ⟨w.heap.size + 1, 1, none⟩ = false := free_of_block (tab1_mid2 (unhide HT) (unhide HG1) (unhide HG2)); have hl2 : w.heap.size + 1 < w2.heap.size := lt_of_block (tab1_mid2 (unhide HT) (unhide HG1) (unhide HG2))))
      go_roundw
      case rel => exact ⟨k + 1, _, _, by omega, by go_num, tab1_round (unhide HT) (unhide HD) (unhide HG1) (unhide HM1) (unhide HG2) (unhide HO2)⟩
      case measure => simp [intOf]; omega
    · obtain rfl : k = n := by omega
      clear H0 HS hlt hk
      obtain ⟨w1, hw1⟩ : ∃ x : World, x = wr := ⟨wr, rfl⟩
      have HE := hide hw1
      rw [← hw1] at HT
      clear hw1
      go_wp2_with fail
      go_loopw [59] (fun i wx => ∃ (k2 : Nat) (kv : Value) (kbs : List Nat), k2 ≤ m ∧ i = .int .i64 k2 ∧ Hid (Tab2 w.heap.size w1.heap.size w w1 wx T Z L cols ov k2 kv kbs)) (fun i _ => m - (intOf i).toNat)
      case atStart => exact ⟨0, nilS, [], Nat.zero_le _, rfl, (unhide HE) ▸ tab2_start (unhide HT) T Z L⟩
      case round =>
        clear HE
        obtain ⟨k2, kv, kbs, hk2, rfl, HT2⟩ := hrel
        by_cases hlt2 : k2 < m
        · obtain rfl := (unhide H1).1 (by omega)
          obtain rfl := (unhide H2).1 (by omega)
          have hbw := hide (unhide HT2).bel
          have hb1 := hb1 (by omega)
          have hb2 := hb2 (by omega)
          obtain ⟨ak, hak⟩ : ∃ x, x = A k2 := ⟨_, rfl⟩
          have hck1 : wr.cell? ⟨b1, o1 + k2, none⟩ = some (.string (T k2)) := ((unhide hbw).cell (p := ⟨b1, o1 + k2, none⟩) hb1).trans ((unhide H1).2 k2 hlt2)
          have hck2 : wr.cell? ⟨b2, o2 + k2, none⟩ = some (.slice ak (L k2) (C k2)) := by rw [hak]; exact ((unhide hbw).cell (p := ⟨b2, o2 + k2, none⟩) hb2).trans ((unhide H2).2 k2 hlt2)
          have HAk : Hid (0 < L k2 → ak = some ⟨Bk k2, Of k2, none⟩) := by rw [hak]; exact unhide HA k2 hlt2
          have hwl : w.heap.size ≤ wr.heap.size := (unhide hbw).size
          have hbl1 : b1 < wr.heap.size := by omega
          have hbl2 : b2 < wr.heap.size := by omega
          have hTl : w.heap.size + 1 < wr.heap.size := lt_of_block (unhide HT2).hT
          obtain ⟨w2, hw2⟩ : ∃ x : World, x = wr := ⟨wr, rfl⟩
          have HE := hide hw2
          rw [← hw2] at HT2 hbw
          obtain ⟨kb, hkb⟩ : ∃ x : Nat, wr.heap.size = x := ⟨_, rfl⟩
          have HB2 : Hid (w2.heap.size = kb) := by rw [hw2]; exact hkb
          clear hw2 hak
          rw [hkb] at hTl hwl hbl1 hbl2
          go_wp2_with fail
          go_loopw [72] (fun i wx => ∃ (q : Nat) (cv : Value), q ≤ L k2 ∧ i = .int .i64 q ∧ Hid (Key1 w2.heap.size w2 wx (T k2) cols (Z k2) q cv)) (fun i _ => L k2 - (intOf i).toNat)
          case atStart => exact ⟨0, nilS, Nat.zero_le _, rfl, by rw [unhide HE]; exact key1_start wr (T k2) cols (Z k2)⟩
          case round =>
            clear hck1 hck2 hkb
            obtain ⟨q, cv, hq, rfl, HK⟩ := hrel
            by_cases hlt3 : q < L k2
            · obtain rfl := unhide HAk (by omega)
              have hqL := unhide HL k2 hlt2
              obtain ⟨z, hz⟩ := Int.eq_ofNat_of_zero_le (unhide HI k2 hlt2 q hlt3).1
              have hzk : z < k := by have := (unhide HI k2 hlt2 q hlt3).2; omega
              have hbk0 := unhide HB k2 hlt2 (by omega)
              have hbk : Bk k2 < kb := by omega
              have hcz : wr.cell? ⟨Bk k2, Of k2 + q, none⟩ = some (.int .i64 (z : Int)) := by
                rw [(unhide HK).bel.cell (p := ⟨Bk k2, Of k2 + q, none⟩) (by rw [unhide HB2]; exact hbk), (unhide hbw).cell (p := ⟨Bk k2, Of k2 + q, none⟩) hbk0, unhide HZ k2 hlt2 q hlt3, hz]
              obtain ⟨go, capo, hTo, hOz, hgo⟩ := inner_facts (unhide HT) (unhide HT2) (unhide HK) z hzk
              rw [unhide HB2] at hgo
              obtain ⟨cz, hcz2⟩ : ∃ x, cols.getD z 0 = x := ⟨_, rfl⟩
              rw [hcz2] at hOz
              have hOz1 : wr.cell? ⟨go, z, none⟩ = some (.pointer (some ⟨cz, 0, none⟩)) := hOz
              clear hOz
              have HKb : Hid (wr.heap[kb]? = some (.cells (Kc (T k2) cv) 65 (0, 0))) := by rw [← unhide HB2]; exact (unhide HK).hK
              have hK2 : wr.cell? ⟨kb, 2, none⟩ = some cv := by rw [cell_of_row _ _ _ _ _ _ (unhide HKb)]; rfl
              have hKf : wr.frozen? ⟨kb, 2, none⟩ = false := free_of_block (unhide HKb)
              have hkl : kb < wr.heap.size := lt_of_block (unhide HKb)
              have hKf1 : ∀ o, (wr.alloc o).frozen? ⟨kb, 2, none⟩ = false := fun o => free_of_block (b := kb) ((Below.heap_alloc _ _ _ hkl).trans (unhide HKb))
              have HKA : Hid (∀ o, (wr.alloc o).drew.cell? ⟨kb, 2, none⟩ = some cv ∧ (wr.alloc o).drew.frozen? ⟨kb, 2, none⟩ = false) := fun o => ⟨(cell_of_row (wr.alloc o) _ _ _ _ _ ((Below.heap_alloc _ _ _ hkl).trans (unhide HKb))).trans rfl, hKf1 o⟩
              have HO : Hid (wr.ownsRow (kb + 1) 34 1 cv q (colsOf cols (Z k2) q)) := by rw [← unhide HB2]; exact (unhide HK).own
              have HZQ : Hid (cols.getD (Z k2 q).toNat 0 = cz) := by rw [hz]; exact hcz2
              have hcb : ∀ x, cv.ownBlock = some x → kb + 1 ≤ x := fun x hx => ((unhide HO).lt x hx).1
              have n1 : some kb ≠ cv.ownBlock := fun e => by have := hcb _ e.symm; omega
              have n2 : some (w.heap.size + 1) ≠ cv.ownBlock := fun e => by have := hcb _ e.symm; omega
              have n3 : some go ≠ cv.ownBlock := fun e => by have := hcb _ e.symm; omega
              have N123 := hide (And.intro n1 (And.intro n2 n3))
              have b1 : (0 : Int) ≤ (z : Int) := Int.natCast_nonneg _
              have b2 : (z : Int) < (k : Int) := by omega
              clear hz n1 n2 n3 hcb hcz2
              go_wp2_with fail
              go_region_law ((refine step_append_lies _ (by rfl) _ _ _ (by rfl) (kb + 1) 34 i0 _ 1 8 Try.underlying32 hi hz0 hz1 hz2 rfl (by omega) cv q (colsOf cols (Z k2) q) (by simp [Act.eval]) (((unhide HO).alloc _).drew) ⟨wr.heap.size, 0, none⟩ 1 1 [ptrTo cz] (by simp [Act.eval]) (by rfl) (World.news_of_block (cs := #[ptrTo cz]) (t := 34) (fr := (0, 0)) (heap_alloc_new wr _)) (ptr_oneCell _) (by omega) (by unfold maxLen; omega) (by omega) (by simp; omega) (wr.heap.size + 1) (by simp) ?_; intro gg cap w3 hown3 hgrow0 hat hlt; have hgrow := hide hgrow0; clear hgrow0; have hc3 : w3.cell? ⟨kb, 2, none⟩ = some cv := ((unhide hgrow).cell_far _ (by simp; omega) (unhide N123).1).trans (unhide HKA _).1; have hf3 : w3.frozen? ⟨kb, 2, none⟩ = false := ((unhide hgrow).frozen_far _ (by simp; omega) (unhide N123).1).trans (unhide HKA _).2))
              all_goals
                go_wp2_with fail
                go_roundw
                case rel => exact ⟨q + 1, _, by omega, by go_num, key1_round_d (unhide HB2) (unhide HK) (unhide hgrow) (unhide HZQ) hown3⟩
                case measure => simp [intOf]; omega
            · obtain rfl : q = L k2 := by omega
              clear hq hlt3 HAk
              have hN1 : w.heap.size + 2 ≤ w1.heap.size := (unhide HT).sz
              have HM := hide (tab2_mid (unhide HT2) hN1 (unhide HK))
              have hT2 : wr.cell? ⟨w.heap.size + 1, 2, none⟩ = some kv := by rw [cell_of_row _ _ _ _ _ _ (unhide HM).1]; rfl
              have hTl2 : w.heap.size + 1 < wr.heap.size := lt_of_block (unhide HM).1
              have hN1l : w1.heap.size ≤ wr.heap.size := (unhide HM).2.2
              obtain ⟨i1, hi1, hy0, hy1, hy2⟩ := info_parts Try.info62
              go_wp2_with (at_builtin; go_must (refine wpList_append_lies _ rfl _ _ 52 rfl w1.heap.size 62 i1 (.pointer none) 1 8 Try.underlying52 hi1 hy0 hy1 hy2 rfl (by decide) kv k2 _ (by rfl) ((unhide HM).2.1.alloc _) ⟨wr.heap.size, 0, none⟩ 1 1 [ptrTo kb] (by rfl) rfl (cell_one_new _ _ _) (ptr_oneCell _) (by omega) (by unfold maxLen; omega) (by omega) (by simp; omega) (wr.heap.size + 1) (by simp) ?_); intro g cap w3 hown3 hg3 _ _; have HO3 := hide hown3; clear hown3; have HG3 := hide hg3; clear hg3; have hc3 : w3.cell? ⟨w.heap.size + 1, 2, none⟩ = some kv := by { rw [cell_of_row _ _ _ _ _ _ (tab2_mid2 (unhide HT2) hN1 (unhide HK) (unhide HG3))]; rfl }; have hf3 : w3.frozen? ⟨w.heap.size + 1, 2, none⟩ = false := free_of_block (tab2_mid2 (unhide HT2) hN1 (unhide HK) (unhide HG3)); have hl3 : w.heap.size + 1 < w3.heap.size := lt_of_block (tab2_mid2 (unhide HT2) hN1 (unhide HK) (unhide HG3)))
              go_roundw
              case rel => exact ⟨k2 + 1, _, _, by omega, by go_num, tab2_round (unhide HT2) hN1 (unhide HK) (unhide HG3) (by rw [unhide HB2]; exact unhide HO3)⟩
              case measure => simp [intOf]; omega
        · obtain rfl : k2 = m := by omega
          go_wp2_with fail
          refine wp_loop_rounds 1 ?_
          rw [rounds_succ]
          go_wp2_with fail
          refine wp_loop_rounds 1 ?_
          rw [rounds_succ]
          go_wp2_with fail
          go_ret
          exact ⟨rfl, w1, ov, cols, kv, kbs, unhide HT, unhide HT2⟩
end Go.Proofs.Qxb6613626a
