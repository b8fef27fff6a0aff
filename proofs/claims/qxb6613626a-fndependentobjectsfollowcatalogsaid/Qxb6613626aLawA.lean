import Derived.Test.Qxb6613626aCopy
import Derived.Deep.RegionHeld3
namespace Go.Proofs.Qxb6613626a
open Go.RowKit Go.Maps

/-- the law's post -/
def LawPost (w : World) (e : Ending) (w' : World) : Prop := e = .returned (.bool true) ∧ Below w.heap.size w w'

/-- what is told of a slice of strings that came in -/
structure StrArg (w : World) (a : Option Addr) (n : Nat) (S : Nat → ByteArray) (b o : Nat) : Prop where
  nil : a = none → n = 0
  at0 : 0 < n → a = some ⟨b, o, none⟩
  lt : 0 < n → b < w.heap.size
  cell : ∀ i, i < n → w.cell? ⟨b, o + i, none⟩ = some (.string (S i))
  size : ∀ i, i < n → (S i).size ≤ maxLen
/-- what is told of a slice of slices of ints that came in -/
structure RowsArg (w : World) (a : Option Addr) (m : Nat) (A : Nat → Option Addr) (L C Bk Of : Nat → Nat) (Z : Nat → Nat → Int) (b o : Nat) : Prop where
  at0 : 0 < m → a = some ⟨b, o, none⟩
  lt : 0 < m → b < w.heap.size
  cell : ∀ i, i < m → w.cell? ⟨b, o + i, none⟩ = some (.slice (A i) (L i) (C i))
  iat : ∀ i, i < m → 0 < L i → A i = some ⟨Bk i, Of i, none⟩
  ilt : ∀ i, i < m → 0 < L i → Bk i < w.heap.size
  icell : ∀ i, i < m → ∀ k, k < L i → w.cell? ⟨Bk i, Of i + k, none⟩ = some (.int .i64 (Z i k))

theorem RowsArg.kept {w w' : World} {a : Option Addr} {m : Nat} {A : Nat → Option Addr} {L C Bk Of : Nat → Nat} {Z : Nat → Nat → Int} {b o : Nat} (h : RowsArg w a m A L C Bk Of Z b o) (hb : Below w.heap.size w w') : RowsArg w' a m A L C Bk Of Z b o where
  at0 := h.at0
  lt := fun x => Nat.lt_of_lt_of_le (h.lt x) hb.size
  cell := fun i hi => (hb.cell (p := ⟨b, o + i, none⟩) (h.lt (by omega))).trans (h.cell i hi)
  iat := h.iat
  ilt := fun i hi x => Nat.lt_of_lt_of_le (h.ilt i hi x) hb.size
  icell := fun i hi k hk => (hb.cell (p := ⟨Bk i, Of i + k, none⟩) (h.ilt i hi (by omega))).trans (h.icell i hi k hk)

theorem src_arg {w : World} {ad : Addr} {n : Nat} {S : Nat → ByteArray} {b o : Nat} (h : StrArg w (some ad) n S b o) (wx : World) (hb : Below w.heap.size w wx) : ∀ j v, (strCells S n)[j]? = some v → wx.cell? (ad.add j) = some v := by
  intro j v hv
  have hj : j < n := by
    have := (List.getElem?_eq_some_iff.1 hv).1
    rwa [strCells_len] at this
  have ha := h.at0 (by omega)
  cases ha
  exact src_cells (h.lt (by omega)) hb h.cell j v hv

/-! ### the plain law -/
theorem pairwise_getD {cols : List Nat} (h : cols.Pairwise (· < ·)) {i k : Nat} (hi : i < cols.length) (hk : k < cols.length) (e : cols.getD i 0 = cols.getD k 0) : i = k := by
  rw [List.getD_eq_getElem?_getD, List.getD_eq_getElem?_getD, List.getElem?_eq_getElem hi, List.getElem?_eq_getElem hk] at e
  simp only [Option.getD_some] at e
  rw [List.pairwise_iff_getElem] at h
  rcases Nat.lt_trichotomy i k with hlt | heq | hgt
  · have := h i k hi hk hlt; omega
  · exact heq
  · have := h k i hk hi hgt; omega

theorem has_iff (Z : Nat → Int) (n : Nat) (x : Int) : has Z n x = true ↔ ∃ r, r < n ∧ Z r = x := by
  simp [has, List.any_eq_true]

theorem pkB_mem (T : Nat → ByteArray) (Z : Nat → Nat → Int) (L : Nat → Nat) (cols : List Nat) (x : Nat) : ∀ k, x ∈ pkB T Z L cols k ↔ ∃ i, i < k ∧ isPK (T i) = true ∧ ∃ r, r < L i ∧ cols.getD (Z i r).toNat 0 = x
  | 0 => by simp [pkB]
  | k + 1 => by
    simp only [pkB, List.mem_append, pkB_mem T Z L cols x k]
    constructor
    · rintro (⟨i, hi, h⟩ | h)
      · exact ⟨i, by omega, h⟩
      · split at h
        · rename_i hp
          simp only [List.mem_map, List.mem_range] at h
          exact ⟨k, by omega, hp, h⟩
        · simp at h
    · rintro ⟨i, hi, hp, h⟩
      by_cases e : i = k
      · subst e
        right
        rw [if_pos hp]
        simpa only [List.mem_map, List.mem_range] using h
      · exact Or.inl ⟨i, by omega, hp, h⟩

theorem pk_law {T : Nat → ByteArray} {Z : Nat → Nat → Int} {L : Nat → Nat} {cols : List Nat} {n m j : Nat} (hl : cols.length = n) (hinc : cols.Pairwise (· < ·)) (hj : j < n) (hI : ∀ i, i < m → ∀ k, k < L i → 0 ≤ Z i k ∧ Z i k < n) :
    (pkB T Z L cols m).contains (cols.getD j 0) = inKey T Z L m j true := by
  rw [Bool.eq_iff_iff, List.contains_iff_mem, pkB_mem]
  unfold inKey
  rw [List.any_eq_true]
  constructor
  · rintro ⟨i, hi, hp, r, hr, e⟩
    have hz := hI i hi r hr
    have := pairwise_getD hinc (by omega) (by omega) e
    exact ⟨i, by simpa using hi, by rw [hp]; simp; exact (has_iff _ _ _).2 ⟨r, hr, by omega⟩⟩
  · rintro ⟨i, hi, h⟩
    simp at h hi
    obtain ⟨r, hr, e⟩ := (has_iff _ _ _).1 h.2
    exact ⟨i, hi, h.1, r, hr, by rw [e]; rfl⟩

theorem pk_stranger {T : Nat → ByteArray} {Z : Nat → Nat → Int} {L : Nat → Nat} {cols : List Nat} {m x : Nat} (hI : ∀ i, i < m → ∀ k, k < L i → 0 ≤ Z i k ∧ Z i k < cols.length) (hx : ∀ c ∈ cols, c < x) : (pkB T Z L cols m).contains x = false := by
  cases h : (pkB T Z L cols m).contains x with
  | false => rfl
  | true =>
    rw [List.contains_iff_mem] at h
    have := hx x (pkB_sub hI m (Nat.le_refl _) x h)
    omega

/-- the j-th cell of the order -/
theorem order_cell {w : World} {tb M : Nat} {ov kv pv : Value} {S T : Nat → ByteArray} {Z : Nat → Nat → Int} {L : Nat → Nat} {cols kbs : List Nat} {n m : Nat} (h : Table w tb M ov kv pv S T Z L cols kbs n m) (j : Nat) (hj : j < n) :
    ∃ go capo, w.cell? ⟨tb, 1, none⟩ = some (.slice (some ⟨go, 0, none⟩) n capo) ∧ w.cell? ⟨go, j, none⟩ = some (.pointer (some ⟨cols.getD j 0, 0, none⟩)) := by
  obtain ⟨go, capo, hv, _, hlt⟩ := h.oown.form (by omega)
  refine ⟨go, capo, by rw [cell_of_row _ _ _ _ _ _ h.hT, hv]; rfl, ?_⟩
  have := h.oown.cells (g := go) (by rw [hv]; rfl) j (ptrTo (cols.getD j 0)) (by
    have hlz : j < cols.length := by rw [h.clen]; exact hj
    simp [List.getElem?_map, List.getElem?_eq_getElem hlz])
  have hadd : (⟨go, 0, none⟩ : Addr).add j = ⟨go, j, none⟩ := by unfold Addr.add; split <;> simp_all
  rw [hadd] at this
  exact this

set_option maxRecDepth 100000 in
set_option maxHeartbeats 1600000 in
theorem lawA (S T : Nat → ByteArray) (Z : Nat → Nat → Int) (A : Nat → Option Addr) (L C Bk Of : Nat → Nat) (a0 a1 a2 : Option Addr) (n c0 n1 c1 m c2 b0 o0 b1 o1 b2 o2 : Nat) (j : Int) (w : World)
    (h0 : StrArg w a0 n S b0 o0) (h1 : StrArg w a1 n1 T b1 o1) (h2 : RowsArg w a2 m A L C Bk Of Z b2 o2) :
    Calls Try.prog 4 #[.slice a0 n c0, .slice a1 n1 c1, .slice a2 m c2, .int .i64 j] w fun e w' => LawPost w e w' := by
  have H0 := hide h0
  have H1 := hide h1
  have H2 := hide h2
  clear h0 h1 h2
  go_enter Try.func4, Try.ntmps4
  go_wp2_with fail
  refine (zzBytes4_any S T A L C a0 a1 a2 n c0 n1 c1 m c2 b0 o0 b1 o1 b2 o2 j w (unhide H0).at0 (unhide H0).cell (unhide H1).at0 (unhide H1).cell (unhide H2).at0 (unhide H2).cell).mono ?_
  rintro e w1 ⟨r, rfl, ⟨q, rfl⟩, hr⟩
  cases r with
  | false =>
    clear hr
    go_wp2_with fail
    go_ret
    exact ⟨rfl, below_drewN (Below.refl _ _) _⟩
  | true =>
    obtain ⟨l0, l1, l2, hL⟩ := hr rfl
    have HL := hide hL
    clear hL hr
    have hmk0 := run_make_row' (P := Try.prog) 22 9 (.string ⟨#[]⟩) 16 Try.underlying22 Try.info9 rfl .i64 .i64 n (by omega) (by omega)
    have hmk1 := run_make_row' (P := Try.prog) 22 9 (.string ⟨#[]⟩) 16 Try.underlying22 Try.info9 rfl .i64 .i64 n1 (by omega) (by omega)
    go_upto_if 24 with fail
    go_cut [0, 9] (fun v _ wx => ∃ v0, v0 = v ∧ Hid (StrAt w wx v0 n S))
    case first =>
      cases a0 with
      | none =>
        have hz := (unhide H0).nil rfl
        have HZ := hide hz
        clear hz
        go_wp2_with fail
        go_meet
        case rel => exact ⟨_, rfl, below_drewN (Below.refl _ _) _, none, c0, 0, 0, rfl, fun h => by have := unhide HZ; omega, fun i hi => by have := unhide HZ; omega⟩
      | some ad =>
        have HP := hide (src_arg (unhide H0))
        go_wp2_with (first
          | (refine wpList_copy_splice rfl (.tmp 28) (.tmp 29) 22 22 rfl 9 Try.underlying22 Try.size9 _ _ _ _ _ _ (by rfl) (by rfl) w.heap.size 0 (madeCells #[.string ⟨#[]⟩] n).toList 9 (made_blk (w.drewN q) n) (strCells S n) (by simp [strCells_len]) (fun _ => ⟨by rfl, ad, by rfl, unhide HP _ ((below_drewN (Below.refl _ _) q).alloc (Nat.le_refl _) _)⟩) (by rw [strCells_len, made_len]; omega) (strCells_one S n) w.heap.size w ((below_drewN (Below.refl _ _) q).alloc (Nat.le_refl _) _) (Nat.le_refl _) ?_; intro w2 HG2 hB2; have HB2 := hide hB2; clear hB2))
        go_meet
        case rel => exact ⟨_, rfl, strAt_copied (made_len n) HG2.out (unhide HB2)⟩
    case rest =>
      obtain ⟨v0, rfl, HA0⟩ := hcut
      clear hmk0
      go_upto_if 33 with fail
      obtain ⟨wd, hwd⟩ : ∃ x : World, x = wc := ⟨wc, rfl⟩
      have HE := hide hwd
      rw [← hwd] at HA0
      clear hwd
      go_cut [1, 10] (fun v _ wx => ∃ v1, v1 = v ∧ Hid (StrAt w wx v1 n1 T ∧ Below wd.heap.size wd wx))
      case first =>
        cases a1 with
        | none =>
          have hz := (unhide H1).nil rfl
          have HZ := hide hz
          clear hz
          go_wp2_with fail
          go_meet
          case rel => exact ⟨_, rfl, ⟨(unhide HE) ▸ (unhide HA0).1, none, c1, 0, 0, rfl, fun h => by have := unhide HZ; omega, fun i hi => by have := unhide HZ; omega⟩, (unhide HE) ▸ Below.refl _ _⟩
        | some ad =>
          have HP := hide (src_arg (unhide H1))
          have HB := hide (unhide HA0).1
          rw [unhide HE] at HB
          have hle : w.heap.size ≤ wc.heap.size := (unhide HB).size
          go_wp2_with (first
            | (refine wpList_copy_splice rfl (.tmp 37) (.tmp 38) 22 22 rfl 9 Try.underlying22 Try.size9 _ _ _ _ _ _ (by rfl) (by rfl) wc.heap.size 0 (madeCells #[.string ⟨#[]⟩] n1).toList 9 (made_blk wc n1) (strCells T n1) (by simp [strCells_len]) (fun _ => ⟨by rfl, ad, by rfl, unhide HP _ ((unhide HB).alloc hle _)⟩) (by rw [strCells_len, made_len]; omega) (strCells_one T n1) wc.heap.size wc ((Below.refl _ _).alloc (Nat.le_refl _) _) (Nat.le_refl _) ?_; intro w2 HG2 hB2; have HB2 := hide hB2; clear hB2))
          go_meet
          case rel => exact ⟨_, rfl, strAt_copied (made_len n1) HG2.out ((unhide HB).trans ((unhide HB2).mono hle)), (unhide HE) ▸ unhide HB2⟩
      case rest =>
        obtain ⟨v1, rfl, HA1⟩ := hcut
        clear hmk1 HE
        have HA := hide (And.intro ((unhide HA0).kept (unhide HA1).2) (unhide HA1).1)
        clear HA0 HA1
        obtain ⟨d0, d1, e0, f0, hv0, g0, k0⟩ := (unhide HA).1.2
        obtain ⟨d2, d3, e1, f1, hv1, g1, k1⟩ := (unhide HA).2.2
        subst hv0 hv1
        have HR := hide ((unhide H2).kept (unhide HA).1.1)
        have HBw := hide (unhide HA).1.1
        have HK := hide (And.intro (And.intro g0 k0) (And.intro g1 k1))
        have HS := hide (unhide H0).size
        clear HA g0 k0 g1 k1 H0 H1 H2
        go_wp2_with fail
        refine (zzStrs_any S 0 d0 n d1 e0 f0 wc (by omega) (by omega) (by omega) (fun h => ((unhide HK).1.1 h).1) (unhide HK).1.2).mono ?_
        rintro e w3 ⟨r1, rfl, hr10, hr11, rfl⟩
        go_wp2_with fail
        refine (zzStrs_any T r1 d2 n1 d3 e1 f1 w3 hr10 hr11 (by omega) (fun h => ((unhide HK).2.1 h).1) (unhide HK).2.2).mono ?_
        rintro e w4 ⟨r2, rfl, hr20, hr21, rfl⟩
        go_wp2_with fail
        refine (zzIntss_any A L C r2 a2 m c2 b2 o2 w4 hr20 hr21 (by omega) (unhide HR).at0 (unhide HR).cell).mono ?_
        rintro e w5 ⟨r3, rfl, hr30, hr31, rfl⟩
        by_cases hs : 1048576 < r3
        · go_wp2_with fail
          go_ret
          exact ⟨rfl, unhide HBw⟩
        by_cases hj0 : j < 0
        · go_wp2_with fail
          go_ret
          exact ⟨rfl, unhide HBw⟩
        by_cases hj1 : (n : Int) ≤ j
        · go_wp2_with fail
          go_ret
          exact ⟨rfl, unhide HBw⟩
        obtain ⟨jn, hjn⟩ := Int.eq_ofNat_of_zero_le (Int.not_lt.1 hj0)
        subst hjn
        have hjl : jn < n := by omega
        go_wp2_with fail
        refine (zzKeysOK_any S Z A L C Bk Of d0 d2 a2 n d1 n1 d3 m c2 e0 f0 b2 o2 w5 (by omega) (by omega) (fun h => ((unhide HK).1.1 h).1) (unhide HK).1.2 (unhide HR).at0 (unhide HR).cell (fun i hi => Nat.le_trans (unhide HL i hi) (by omega)) (unhide HR).iat (unhide HR).icell).mono ?_
        rintro e w6 ⟨r, rfl, ⟨q6, rfl⟩, hr⟩
        cases r with
        | false =>
          clear hr
          go_wp2_with fail
          go_ret
          exact ⟨rfl, below_drewN (unhide HBw) _⟩
        | true =>
          obtain ⟨hn4, hnm, hdist, hidx⟩ := hr rfl
          have HI : Hid (∀ i, i < m → ∀ k, k < L i → 0 ≤ Z i k ∧ Z i k < n) := fun i hi k hk => idxIn_get (hidx i hi) k hk
          clear hr hdist hidx
          subst hnm
          have hb6 : Below w5.heap.size w5 (w5.drewN q6) := below_drewN (Below.refl _ _) _
          have HR6 := hide ((unhide HR).kept hb6)
          have HB6 := hide (below_drewN (unhide HBw) q6)
          clear hb6 HR HBw
          go_wp2_with fail
          refine (zzInKeyOf_any T Z A L C Bk Of jn true d2 a2 n1 d3 c2 e1 f1 b2 o2 (w5.drewN q6) (by omega) (fun h => ((unhide HK).2.1 h).1) (fun i hi => (unhide HK).2.2 i hi) (unhide HR6).at0 (unhide HR6).cell (fun i hi => Nat.le_trans (unhide HL i hi) (by omega)) (unhide HR6).iat (unhide HR6).icell).mono ?_
          rintro e w6 ⟨rfl, rfl⟩
          obtain ⟨want, hwant⟩ : ∃ x, inKey T Z L n1 jn true = x := ⟨_, rfl⟩
          rw [hwant]
          have HW := hide hwant
          clear hwant
          go_wp2_with fail
          refine (newTable_any S T Z A L C Bk Of d0 d2 a2 n d1 n1 d3 c2 e0 f0 e1 f1 b2 o2 (w5.drewN q6) hn4 (by omega) (fun h => ((unhide HK).1.1 h).2) (fun h => ((unhide HK).2.1 h).2) (unhide HR6).lt (unhide HR6).ilt (unhide HS) (unhide HL)
            (fun h => ((unhide HK).1.1 h).1) (fun i hi => (unhide HK).1.2 i hi) (fun h => ((unhide HK).2.1 h).1) (fun i hi => (unhide HK).2.2 i hi) (unhide HR6).at0 (unhide HR6).cell (unhide HR6).iat (unhide HR6).icell (unhide HI)).mono ?_
          intro e w7 hnew
          obtain ⟨rfl, hb7, ov, cols, kv, kbs, ht⟩ := table_of_new hnew
          have HB7 := hide ((unhide HB6).trans (hb7.mono (unhide HB6).size))
          have hcj : w7.cell? ⟨e0, f0 + jn, none⟩ = some (.string (S jn)) := (hb7.cell (p := ⟨e0, f0 + jn, none⟩) ((unhide HK).1.1 (by omega)).2).trans ((unhide HK).1.2 jn hjl)
          have hcl : e0 < w7.heap.size := Nat.lt_of_lt_of_le ((unhide HK).1.1 (by omega)).2 hb7.size
          obtain rfl := ((unhide HK).1.1 (by omega)).1
          have HT := hide ht
          clear hb7 ht hnew HR6 HK
          obtain ⟨go, capo, hord, hoj⟩ := order_cell (unhide HT) jn hjl
          obtain ⟨tb, htb⟩ : ∃ x, (w5.drewN q6).heap.size + 1 = x := ⟨_, rfl⟩
          obtain ⟨cz, hcz⟩ : ∃ x, cols.getD jn 0 = x := ⟨_, rfl⟩
          rw [htb] at hord HT
          rw [hcz] at hoj
          unfold ptrTo
          rw [htb]
          clear htb
          have HX : Hid ((pkB T Z L cols n1).contains cz = want) := by rw [← hcz, pk_law (unhide HT).clen (unhide HT).inc hjl (unhide HI)]; exact unhide HW
          have HPB : Hid (PB w7 cz) := by
            rw [← hcz]
            refine (unhide HT).blk _ ?_
            have hlz : jn < cols.length := by rw [(unhide HT).clen]; exact hjl
            simp [List.getElem?_eq_getElem hlz]
          clear hcz HW
          go_wp2_with fail
          refine (order_any tb _ _ _ w7 hord).mono ?_
          rintro e w8 ⟨rfl, rfl⟩
          go_wp2_with fail
          refine (zzInPK_any tb _ ov kv nilS S T Z L cols kbs n n1 cz want w8 (by omega) (unhide HL) (unhide HI) (unhide HT) (unhide HPB) (unhide HX)).mono ?_
          rintro e w9 ⟨rfl, hb9⟩
          have HT9 := hide ((unhide HT).kept hb9)
          have HB9 := hide ((unhide HB7).trans (hb9.mono (unhide HB7).size))
          have hcj9 : w9.cell? ⟨e0, f0 + jn, none⟩ = some (.string (S jn)) := (hb9.cell (p := ⟨e0, f0 + jn, none⟩) hcl).trans hcj
          have hcl9 : e0 < w9.heap.size := Nat.lt_of_lt_of_le hcl hb9.size
          have HST : Hid ((pkB T Z L cols n1).contains w9.heap.size = false) := pk_stranger (by rw [(unhide HT9).clen]; exact unhide HI) fun c hc => ((unhide HT9).blk c hc).lt
          have hne9 := World.new_ne w9 ⟨e0, f0 + jn, none⟩ hcj9
          have hcja : ∀ o, (w9.alloc o).cell? ⟨e0, f0 + jn, none⟩ = some (.string (S jn)) := fun o => by rw [World.cell?_of_block (w := w9) (Below.heap_alloc _ _ _ hcl9)]; exact hcj9
          have bj0 : (0 : Int) ≤ (jn : Int) := Int.natCast_nonneg _
          have bj1 : (jn : Int) < (n : Int) := by omega
          clear hb9 hcj hcl HT HB7 hord hoj HPB HX HB6
          go_wp2_with fail
          go_region_held3 (fun w' => w'.cell? ⟨e0, f0 + jn, none⟩ = some (.string (S jn)))
            (first | go_keep | (rw [(unhide hbA).cell (p := ⟨e0, f0 + jn, none⟩) (by simp; omega)]; simp [*]))
            (first
              | (go_at_call 19; refine (newColumn_any _ _ _).mono ?_; rintro e wA ⟨rfl, csA, rfl⟩)
              | (go_at_call 16; refine (zzInPK_any tb _ ov kv nilS S T Z L cols kbs n n1 w9.heap.size false ((w9.alloc (.cells csA 61)).drew) (by omega) (unhide HL) (unhide HI) ((unhide HT9).kept (((Below.refl _ _).alloc (Nat.le_refl _) _).drew)) ⟨csA, 61, heap_alloc_new w9 _⟩ (unhide HST)).mono ?_; rintro e wB ⟨rfl, hbA0⟩; have hbA := hide hbA0; clear hbA0))
          have HBe := hide (((unhide HB9).trans ((((Below.refl _ _).alloc (Nat.le_refl _) (.cells csA 61)).drew).mono (unhide HB9).size)).trans ((unhide hbA).mono (Nat.le_trans (unhide HB9).size (by simp))))
          go_wp2_with fail
          go_ret
          exact ⟨rfl, unhide HBe⟩
end Go.Proofs.Qxb6613626a
