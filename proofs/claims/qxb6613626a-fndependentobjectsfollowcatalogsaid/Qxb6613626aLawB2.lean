import Derived.Test.Qxb6613626aLawB
import Derived.Deep.CutBlock
namespace Go.Proofs.Qxb6613626a
open Go.RowKit Go.Maps

set_option maxRecDepth 100000 in
set_option maxHeartbeats 1600000 in
theorem lawB (S T U : Nat → ByteArray) (Z : Nat → Nat → Int) (A : Nat → Option Addr) (L C Bk Of : Nat → Nat) (a0 a1 a2 a3 : Option Addr) (n c0 n1 c1 m c2 n3 c3 b0 o0 b1 o1 b2 o2 b3 o3 : Nat) (j : Int) (w : World)
    (h0 : StrArg w a0 n S b0 o0) (h1 : StrArg w a1 n1 T b1 o1) (h2 : RowsArg w a2 m A L C Bk Of Z b2 o2) (h3 : StrArg w a3 n3 U b3 o3) :
    Calls Try.prog 5 #[.slice a0 n c0, .slice a1 n1 c1, .slice a2 m c2, .slice a3 n3 c3, .int .i64 j] w fun e w' => LawPost w e w' := by
  have H0 := hide h0
  have H1 := hide h1
  have H2 := hide h2
  have H3 := hide h3
  clear h0 h1 h2 h3
  go_enter Try.func5, Try.ntmps5
  go_wp2_with fail
  refine (zzBytes5_any S T U A L C a0 a1 a2 a3 n c0 n1 c1 m c2 n3 c3 b0 o0 b1 o1 b2 o2 b3 o3 j w (unhide H0).at0 (unhide H0).cell (unhide H1).at0 (unhide H1).cell (unhide H2).at0 (unhide H2).cell (unhide H3).at0 (unhide H3).cell).mono ?_
  rintro e w1 ⟨r, rfl, ⟨q, rfl⟩, hr⟩
  cases r with
  | false =>
    clear hr
    go_wp2_with fail
    go_ret
    exact ⟨rfl, below_drewN (Below.refl _ _) _⟩
  | true =>
    obtain ⟨l0, l1, l2, l3, hL⟩ := hr rfl
    have HL := hide hL
    clear hL hr
    have hmk0 := run_make_row' (P := Try.prog) 22 9 (.string ⟨#[]⟩) 16 Try.underlying22 Try.info9 rfl .i64 .i64 n (by omega) (by omega)
    have hmk1 := run_make_row' (P := Try.prog) 22 9 (.string ⟨#[]⟩) 16 Try.underlying22 Try.info9 rfl .i64 .i64 n1 (by omega) (by omega)
    have hmk3 := run_make_row' (P := Try.prog) 22 9 (.string ⟨#[]⟩) 16 Try.underlying22 Try.info9 rfl .i64 .i64 n3 (by omega) (by omega)
    go_upto_if 32 with fail
    go_cut [0, 11] (fun v _ wx => ∃ v0, v0 = v ∧ Hid (StrAt w wx v0 n S))
    case first =>
      cases a0 with
      | none =>
        have hz := (unhide H0).nil rfl
        have HZ := hide hz
        clear hz
        go_wp2_with fail
        go_meet
        case rel => exact ⟨_, rfl, below_drewN (Below.refl _ _) _, none, c0, 0, 0, rfl, fun h => by have := unhide HZ; omega, fun i hi => by have := unhide HZ; omega⟩
      | some ad =>
        have HP := hide (src_arg (unhide H0))
        go_wp2_with (first
          | (refine wpList_copy_splice rfl (.tmp 36) (.tmp 37) 22 22 rfl 9 Try.underlying22 Try.size9 _ _ _ _ _ _ (by rfl) (by rfl) w.heap.size 0 (madeCells #[.string ⟨#[]⟩] n).toList 9 (made_blk (w.drewN q) n) (strCells S n) (by simp [strCells_len]) (fun _ => ⟨by rfl, ad, by rfl, unhide HP _ ((below_drewN (Below.refl _ _) q).alloc (Nat.le_refl _) _)⟩) (by rw [strCells_len, made_len]; omega) (strCells_one S n) w.heap.size w ((below_drewN (Below.refl _ _) q).alloc (Nat.le_refl _) _) (Nat.le_refl _) ?_; intro w2 HG2 hB2; have HB2 := hide hB2; clear hB2))
        go_meet
        case rel => exact ⟨_, rfl, strAt_copied (made_len n) HG2.out (unhide HB2)⟩
    case rest =>
      obtain ⟨v0, rfl, HA0⟩ := hcut
      clear hmk0
      go_upto_if 41 with fail
      obtain ⟨wd, hwd⟩ : ∃ x : World, x = wc := ⟨wc, rfl⟩
      have HE := hide hwd
      rw [← hwd] at HA0
      clear hwd
      go_cut [1, 12] (fun v _ wx => ∃ v1, v1 = v ∧ Hid (StrAt w wx v1 n1 T ∧ Below wd.heap.size wd wx))
      case first =>
        cases a1 with
        | none =>
          have hz := (unhide H1).nil rfl
          have HZ := hide hz
          clear hz
          go_wp2_with fail
          go_meet
          case rel => exact ⟨_, rfl, ⟨(unhide HE) ▸ (unhide HA0).1, none, c1, 0, 0, rfl, fun h => by have := unhide HZ; omega, fun i hi => by have := unhide HZ; omega⟩, (unhide HE) ▸ Below.refl _ _⟩
        | some ad =>
          have HP := hide (src_arg (unhide H1))
          have HB := hide (unhide HA0).1
          rw [unhide HE] at HB
          have hle : w.heap.size ≤ wc.heap.size := (unhide HB).size
          go_wp2_with (first
            | (refine wpList_copy_splice rfl (.tmp 45) (.tmp 46) 22 22 rfl 9 Try.underlying22 Try.size9 _ _ _ _ _ _ (by rfl) (by rfl) wc.heap.size 0 (madeCells #[.string ⟨#[]⟩] n1).toList 9 (made_blk wc n1) (strCells T n1) (by simp [strCells_len]) (fun _ => ⟨by rfl, ad, by rfl, unhide HP _ ((unhide HB).alloc hle _)⟩) (by rw [strCells_len, made_len]; omega) (strCells_one T n1) wc.heap.size wc ((Below.refl _ _).alloc (Nat.le_refl _) _) (Nat.le_refl _) ?_; intro w2 HG2 hB2; have HB2 := hide hB2; clear hB2))
          go_meet
          case rel => exact ⟨_, rfl, strAt_copied (made_len n1) HG2.out ((unhide HB).trans ((unhide HB2).mono hle)), (unhide HE) ▸ unhide HB2⟩
      case rest =>
        obtain ⟨v1, rfl, HA1⟩ := hcut
        clear hmk1 HE
        have HA := hide (And.intro ((unhide HA0).kept (unhide HA1).2) (unhide HA1).1)
        clear HA0 HA1
        go_upto_if 50 with fail
        obtain ⟨we, hwe⟩ : ∃ x : World, x = wc := ⟨wc, rfl⟩
        have HE := hide hwe
        rw [← hwe] at HA
        clear hwe
        go_cut [3, 13] (fun v _ wx => ∃ v3, v3 = v ∧ Hid (StrAt w wx v3 n3 U ∧ Below we.heap.size we wx))
        case first =>
          cases a3 with
          | none =>
            have hz := (unhide H3).nil rfl
            have HZ := hide hz
            clear hz
            go_wp2_with fail
            go_meet
            case rel => exact ⟨_, rfl, ⟨(unhide HE) ▸ (unhide HA).1.1, none, c3, 0, 0, rfl, fun h => by have := unhide HZ; omega, fun i hi => by have := unhide HZ; omega⟩, (unhide HE) ▸ Below.refl _ _⟩
          | some ad =>
            have HP := hide (src_arg (unhide H3))
            have HB := hide (unhide HA).1.1
            rw [unhide HE] at HB
            have hle : w.heap.size ≤ wc.heap.size := (unhide HB).size
            go_wp2_with (first
              | (refine wpList_copy_splice rfl (.tmp 54) (.tmp 55) 22 22 rfl 9 Try.underlying22 Try.size9 _ _ _ _ _ _ (by rfl) (by rfl) wc.heap.size 0 (madeCells #[.string ⟨#[]⟩] n3).toList 9 (made_blk wc n3) (strCells U n3) (by simp [strCells_len]) (fun _ => ⟨by rfl, ad, by rfl, unhide HP _ ((unhide HB).alloc hle _)⟩) (by rw [strCells_len, made_len]; omega) (strCells_one U n3) wc.heap.size wc ((Below.refl _ _).alloc (Nat.le_refl _) _) (Nat.le_refl _) ?_; intro w2 HG2 hB2; have HB2 := hide hB2; clear hB2))
            go_meet
            case rel => exact ⟨_, rfl, strAt_copied (made_len n3) HG2.out ((unhide HB).trans ((unhide HB2).mono hle)), (unhide HE) ▸ unhide HB2⟩
        case rest =>
          obtain ⟨v3, rfl, HA3⟩ := hcut
          clear hmk3 HE
          have HAA := hide (And.intro ((unhide HA).1.kept (unhide HA3).2) (And.intro ((unhide HA).2.kept (unhide HA3).2) (unhide HA3).1))
          clear HA HA3
          obtain ⟨d0, d1, e0, f0, hv0, g0, k0⟩ := (unhide HAA).1.2
          obtain ⟨d2, d3, e1, f1, hv1, g1, k1⟩ := (unhide HAA).2.1.2
          obtain ⟨d4, d5, e3, f3, hv3, g3, k3⟩ := (unhide HAA).2.2.2
          subst hv0 hv1 hv3
          have HR := hide ((unhide H2).kept (unhide HAA).1.1)
          have HBw := hide (unhide HAA).1.1
          have HK := hide (And.intro (And.intro g0 k0) (And.intro (And.intro g1 k1) (And.intro g3 k3)))
          have HS := hide (And.intro (unhide H0).size (unhide H3).size)
          clear HAA g0 k0 g1 k1 g3 k3 H0 H1 H2 H3
          go_wp2_with fail
          refine (zzStrs_any S 0 d0 n d1 e0 f0 wc (by omega) (by omega) (by omega) (fun h => ((unhide HK).1.1 h).1) (unhide HK).1.2).mono ?_
          rintro e w3 ⟨r1, rfl, hr10, hr11, rfl⟩
          go_wp2_with fail
          refine (zzStrs_any T r1 d2 n1 d3 e1 f1 w3 hr10 hr11 (by omega) (fun h => ((unhide HK).2.1.1 h).1) (unhide HK).2.1.2).mono ?_
          rintro e w4 ⟨r2, rfl, hr20, hr21, rfl⟩
          go_wp2_with fail
          refine (zzIntss_any A L C r2 a2 m c2 b2 o2 w4 hr20 hr21 (by omega) (unhide HR).at0 (unhide HR).cell).mono ?_
          rintro e w5 ⟨r3, rfl, hr30, hr31, rfl⟩
          go_wp2_with fail
          refine (zzStrs_any U r3 d4 n3 d5 e3 f3 w5 hr30 hr31 (by omega) (fun h => ((unhide HK).2.2.1 h).1) (unhide HK).2.2.2).mono ?_
          rintro e w6 ⟨r4, rfl, hr40, hr41, rfl⟩
          by_cases hs : 1048576 < r4
          · go_wp2_with fail
            go_ret
            exact ⟨rfl, unhide HBw⟩
          by_cases hj0 : j < 0
          · go_wp2_with fail
            go_ret
            exact ⟨rfl, unhide HBw⟩
          by_cases hj1 : (n : Int) ≤ j
          · go_wp2_with fail
            go_ret
            exact ⟨rfl, unhide HBw⟩
          obtain ⟨jn, hjn⟩ := Int.eq_ofNat_of_zero_le (Int.not_lt.1 hj0)
          subst hjn
          have hjl : jn < n := by omega
          have hds : decide (1048576 < r4) = false := by simpa using hs
          have hdj : decide ((jn : Int) < 0) = false := by simp
          go_wp2_with fail
          refine (zzKeysOK_any S Z A L C Bk Of d0 d2 a2 n d1 n1 d3 m c2 e0 f0 b2 o2 w6 (by omega) (by omega) (fun h => ((unhide HK).1.1 h).1) (unhide HK).1.2 (unhide HR).at0 (unhide HR).cell (fun i hi => Nat.le_trans (unhide HL i hi) (by omega)) (unhide HR).iat (unhide HR).icell).mono ?_
          rintro e w7 ⟨r, rfl, ⟨q6, rfl⟩, hr⟩
          cases r with
          | false =>
            clear hr
            go_wp2_with fail
            go_ret
            exact ⟨rfl, below_drewN (unhide HBw) _⟩
          | true =>
            obtain ⟨hn4, hnm, hdist, hidx⟩ := hr rfl
            have HI : Hid (∀ i, i < m → ∀ k, k < L i → 0 ≤ Z i k ∧ Z i k < n) := fun i hi k hk => idxIn_get (hidx i hi) k hk
            have HDist := hide hdist
            clear hr hdist hidx
            subst hnm
            have hb6 : Below w6.heap.size w6 (w6.drewN q6) := below_drewN (Below.refl _ _) _
            have HR6 := hide ((unhide HR).kept hb6)
            have HB6 := hide (below_drewN (unhide HBw) q6)
            clear hb6 HR HBw
            go_wp2_with fail
            refine (zzInKeyOf_any T Z A L C Bk Of jn false d2 a2 n1 d3 c2 e1 f1 b2 o2 (w6.drewN q6) (by omega) (fun h => ((unhide HK).2.1.1 h).1) (fun i hi => (unhide HK).2.1.2 i hi) (unhide HR6).at0 (unhide HR6).cell (fun i hi => Nat.le_trans (unhide HL i hi) (by omega)) (unhide HR6).iat (unhide HR6).icell).mono ?_
            rintro e w7 ⟨rfl, rfl⟩
            generalize inKey T Z L n1 jn false = inAny
            obtain ⟨rfl, hcl⟩ := (unhide HK).1.1 (by omega)
            have hcj : w6.cell? ⟨e0, f0 + jn, none⟩ = some (.string (S jn)) := (unhide HK).1.2 jn hjl
            go_wp2_with fail
            refine (zzFind_any U (S jn) d4 n3 d5 e3 f3 (w6.drewN q6) (by omega) (fun h => ((unhide HK).2.2.1 h).1) (fun i hi => (unhide HK).2.2.2 i hi)).mono ?_
            rintro e w7 ⟨rf, rfl, rfl, hrf⟩
            obtain ⟨named, hnamed⟩ : ∃ x : Bool, x = decide (0 ≤ rf) := ⟨_, rfl⟩
            have HNm : Hid (named = true ↔ ∃ i, i < n3 ∧ sEq (U i) (S jn) = true) := by
              rw [hnamed, decide_eq_true_iff]
              exact unhide hrf
            clear hrf hcj hcl
            have hnd : decide (0 ≤ rf) = named := hnamed.symm
            clear hnamed
            go_wp2_with fail
            refine (newTable_any S T Z A L C Bk Of _ d2 a2 n d1 n1 d3 c2 e0 f0 e1 f1 b2 o2 (w6.drewN q6) hn4 (by omega) (fun h => ((unhide HK).1.1 h).2) (fun h => ((unhide HK).2.1.1 h).2) (unhide HR6).lt (unhide HR6).ilt (unhide HS).1 (unhide HL)
              (fun _ => rfl) (fun i hi => (unhide HK).1.2 i hi) (fun h => ((unhide HK).2.1.1 h).1) (fun i hi => (unhide HK).2.1.2 i hi) (unhide HR6).at0 (unhide HR6).cell (unhide HR6).iat (unhide HR6).icell (unhide HI)).mono ?_
            intro e w8 hnew
            obtain ⟨rfl, hb8, ov, cols, kv, kbs, ht⟩ := table_of_new hnew
            have HB8 := hide ((unhide HB6).trans (hb8.mono (unhide HB6).size))
            have HK3 : Hid ((0 < n3 → d4 = some ⟨e3, f3, none⟩ ∧ e3 < w8.heap.size) ∧ ∀ i, i < n3 → w8.cell? ⟨e3, f3 + i, none⟩ = some (.string (U i))) :=
              ⟨fun h => ⟨((unhide HK).2.2.1 h).1, Nat.lt_of_lt_of_le ((unhide HK).2.2.1 h).2 hb8.size⟩, fun i hi => (hb8.cell (p := ⟨e3, f3 + i, none⟩) ((unhide HK).2.2.1 (by omega)).2).trans ((unhide HK).2.2.2 i hi)⟩
            have HT := hide ht
            have hwt : w.heap.size ≤ (w6.drewN q6).heap.size + 1 := Nat.le_succ_of_le (unhide HB6).size
            clear hb8 ht hnew HR6 HK HB6
            obtain ⟨tb, htb⟩ : ∃ x, (w6.drewN q6).heap.size + 1 = x := ⟨_, rfl⟩
            rw [htb] at HT hwt
            unfold ptrTo
            rw [htb]
            clear htb
            obtain ⟨D, hmD, hDD⟩ := (unhide HT).map
            have HMD := hide hmD
            have HDD := hide hDD
            clear hmD hDD
            go_wp2_with fail
            refine (zzPartition_any tb _ n ov kv nilS D U d4 d5 n3 e3 f3 w8 (by omega) (unhide HS).2 (unhide HK3).1 (unhide HK3).2 (unhide HT).hT (unhide HMD)).mono ?_
            rintro e w9 ⟨rfl, pa, pc, wp, hw9, hop, hbp⟩
            have HT9 : Hid (Table w9 tb (w6.drewN q6).heap.size ov kv (.slice pa (lkB D U n3).length pc) S T Z L cols kbs n n1) := by rw [hw9]; exact table_part (unhide HT) hbp
            have HB9 : Hid (Below w.heap.size w w9) := by rw [hw9]; exact ((unhide HB8).trans (hbp.mono (unhide HB8).size)).setCell (by simpa using hwt) _
            have HO9 : Hid (w9.ownsRow 0 34 1 (.slice pa (lkB D U n3).length pc) (lkB D U n3).length ((lkB D U n3).map ptrTo)) := by
              rw [hw9]
              refine row_base (ownsRow_setCell_other hop (fun e => ?_) _) (Nat.zero_le _)
              have h1 := (hop.lt tb e).1
              have h2 := lt_of_block (unhide HT).hT
              omega
            have HPS : Hid (∀ x ∈ lkB D U n3, PB w9 x) := fun x hx => (unhide HT9).blk x (lkB_cols (unhide HDD) (unhide HT9).clen (unhide HDist) x hx)
            have HPL : Hid (cols.getD jn 0 ∈ lkB D U n3 ↔ named = true) := (part_law (unhide HDD) (unhide HT9).clen (unhide HT9).inc hjl (unhide HDist)).trans (unhide HNm).symm
            have hlb := lkB_len D U n3
            clear hw9 hop hbp HT HB8 HNm HMD HDD HDist HK3
            generalize lkB D U n3 = ps at *
            obtain ⟨go, capo, hord, hoj⟩ := order_cell (unhide HT9) jn hjl
            obtain ⟨cz, hcz⟩ : ∃ x, cols.getD jn 0 = x := ⟨_, rfl⟩
            have HPB : Hid (PB w9 cz) := by
              rw [← hcz]
              refine (unhide HT9).blk _ ?_
              have hlz : jn < cols.length := by rw [(unhide HT9).clen]; exact hjl
              simp [List.getElem?_eq_getElem hlz]
            rw [hcz] at hoj HPL
            clear hcz
            have hp6 : w9.cell? ⟨tb, 6, none⟩ = some (.slice pa ps.length pc) := by rw [cell_of_row _ _ _ _ _ _ (unhide HT9).hT]; rfl
            obtain ⟨pg, hpg⟩ : ∃ pg, 0 < ps.length → pa = some ⟨pg, 0, none⟩ := by
              rcases (unhide HO9).2 with ⟨hv, h0⟩ | ⟨g, cap, cur, hv, _⟩
              · exact ⟨0, fun h => by omega⟩
              · simp at hv
                exact ⟨g, fun _ => hv.1⟩
            have HPC : Hid (∀ i, i < ps.length → w9.cell? ⟨pg, i, none⟩ = some (.pointer (some ⟨ps.getD i 0, 0, none⟩))) := fun i hi => by
              have hpa := hpg (by omega)
              have := (unhide HO9).cells (g := pg) (by rw [hpa]; rfl) i (ptrTo (ps.getD i 0)) (by simp [List.getElem?_map, List.getElem?_eq_getElem hi])
              have hadd : (⟨pg, 0, none⟩ : Addr).add i = ⟨pg, i, none⟩ := by unfold Addr.add; split <;> simp_all
              rw [hadd] at this
              exact this
            have HPG := hide hpg
            clear hpg
            go_wp2_with fail
            refine (order_any tb _ _ _ w9 hord).mono ?_
            rintro e wA ⟨rfl, rfl⟩
            go_wp2_with fail
            refine (partitioning_any tb _ _ _ wA hp6).mono ?_
            rintro e wB ⟨rfl, rfl⟩
            clear hord hp6
            go_upto_block 0 with fail
            go_cut [20, 21] (fun p _ wx => ∃ (pt : Bool) (q : Nat), p = .bool pt ∧ wx = wB.drewN q ∧ Hid (pt = true ↔ cz ∈ ps))
            case first =>
              go_wp2_with fail
              go_loopw [20, 21] (fun p i wx => ∃ (k q : Nat), k ≤ ps.length ∧ i = .int .i64 k ∧ p = .bool false ∧ wx = wB.drewN q ∧ Hid (∀ i, i < k → ps.getD i 0 ≠ cz)) (fun _ i _ => ps.length - (intOf i).toNat)
              case atStart => exact ⟨0, 0, Nat.zero_le _, rfl, rfl, rfl, fun i hi => absurd hi (by omega)⟩
              case round =>
                obtain ⟨k, q7, hk, rfl, rfl, rfl, hno⟩ := hrel
                by_cases hlt : k < ps.length
                · obtain rfl := unhide HPG (by omega)
                  have hck := unhide HPC k hlt
                  have hmem : ps.getD k 0 ∈ ps := by simp [List.getElem?_eq_getElem hlt]
                  have heq : ∀ x, (binOp .eql 34 (.pointer (some ⟨ps.getD k 0, 0, none⟩)) (.pointer (some ⟨cz, 0, none⟩))).run Try.prog (wB.drewN x) = .ok (.bool (ps.getD k 0 == cz)) (wB.drewN x) := fun x =>
                    run_eql_col (wB.drewN x) _ _ (unhide HPS _ hmem) (unhide HPB)
                  obtain ⟨px, hpx⟩ : ∃ x, ps.getD k 0 = x := ⟨_, rfl⟩
                  rw [hpx] at hck heq hmem
                  have HPX := hide hpx
                  have HMem := hide hmem
                  have t1 : (0 : Int) ≤ (k : Int) := by omega
                  have t2 : (k : Int) < (ps.length : Int) := by omega
                  have t3 : (0 : Int) ≤ (jn : Int) := by omega
                  have t4 : (jn : Int) < (n : Int) := by omega
                  clear hpx hmem
                  cases he : (px == cz) with
                  | true =>
                    rw [he] at heq
                    have HEq := hide he
                    clear he
                    go_wp2
                    go_quiet (fail)
                    go_wp2_with fail
                    go_meet
                    case rel => exact ⟨true, _, rfl, World.drewN_drewN _ _ _, ⟨fun _ => by have := unhide HEq; simp at this; rw [← this]; exact unhide HMem, fun _ => rfl⟩⟩
                  | false =>
                    rw [he] at heq
                    have HEq := hide he
                    clear he
                    go_wp2
                    go_quiet (fail)
                    go_wp2_with fail
                    go_roundw
                    case rel => exact ⟨k + 1, _, by omega, by go_num, rfl, rfl, fun i hi => by
                      by_cases e : i = k
                      · subst e; rw [unhide HPX]; simpa using unhide HEq
                      · exact hno i (by omega)⟩
                    case measure => simp [intOf]; omega
                · go_wp2_with fail
                  go_meet
                  case rel => exact ⟨false, _, rfl, rfl, ⟨fun h => (by cases h), fun h => (by
                    obtain ⟨i, hi, e⟩ := List.mem_iff_getElem.1 h
                    exact absurd (by simp [List.getElem?_eq_getElem hi, e]) (unhide hno i (by omega)))⟩⟩
            case rest =>
              obtain ⟨pt, q7, rfl, rfl, hpt⟩ := hcut
              obtain rfl : pt = named := Bool.eq_iff_iff.2 ((unhide hpt).trans (unhide HPL))
              have HTA := hide ((unhide HT9).kept (below_drewN (Below.refl _ _) q7))
              have HPA := hide ((unhide HPB).kept (below_drewN (Below.refl _ _) q7))
              have HBA := hide (below_drewN (unhide HB9) q7)
              clear hpt HPL HPG HPC HPS HO9 HT9 HPB hds hdj hs hj0 hj1 hnd HS HB9
              go_wp2_with fail
              refine (zzInPK_any tb _ ov kv _ S T Z L cols kbs n n1 cz _ (wB.drewN q7) (by omega) (unhide HL) (unhide HI) (unhide HTA) (unhide HPA) rfl).mono ?_
              rintro e wC ⟨rfl, hbC⟩
              generalize (pkB T Z L cols n1).contains cz = prim
              have HBC := hide ((unhide HBA).trans (hbC.mono (unhide HBA).size))
              clear hbC HTA HPA HBA HL HI
              go_wp2_with fail
              refine (newChange_any inAny prim pt wC).mono ?_
              rintro e wE ⟨rfl, rfl⟩
              have HX := hide (zzDep_any inAny prim pt)
              have HY := hide (chg_one inAny prim pt)
              have HZ : Hid ((Try.prog.info? 44).map (·.size) = some (chgCells inAny prim pt).size) := Try.size44
              have HW : Hid (26 = (chgCells inAny prim pt).size) := rfl
              generalize chgCells inAny prim pt = X at *
              cases inAny <;> cases pt
              all_goals
                go_wp2_with (first
                  | (refine wpList_store_new rfl 44 (.tmp 23) (.tmp 135) rfl (wC.alloc (.cells X 44)) _ X (by rfl) (wC.heap.size + 1) (by simp) (by rfl) (by rfl) (unhide HZ) (by exact unhide HW) (unhide HY) ?_)
                  | (refine wpList_load_row rfl 44 (.tmp 23) rfl (wC.heap.size + 1) (by rfl) 44 X (0, 0) _ (heap_alloc2_new wC _ _) Try.underlying44 rfl (unhide HZ) ?_)
                  | (go_at_call 23; refine (unhide HX _).mono ?_; rintro e wF ⟨rfl, hbF⟩))
                go_ret
                exact ⟨rfl, ((((unhide HBC).alloc (unhide HBC).size _).alloc (by have := (unhide HBC).size; simp; omega) _)).trans (hbF.mono (by have := (unhide HBC).size; simp; omega))⟩
end Go.Proofs.Qxb6613626a
