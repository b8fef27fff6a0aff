import Derived.Test.Qxb6613626aPk2
namespace Go.Proofs.Qxb6613626a
open Go.RowKit Go.Maps

theorem pkB_sub {T : Nat → ByteArray} {Z : Nat → Nat → Int} {L : Nat → Nat} {cols : List Nat} {m : Nat} (hI : ∀ i, i < m → ∀ k, k < L i → 0 ≤ Z i k ∧ Z i k < cols.length) : ∀ k, k ≤ m → ∀ x ∈ pkB T Z L cols k, x ∈ cols
  | 0, _, x, hx => by simp [pkB] at hx
  | k + 1, h, x, hx => by
    simp only [pkB, List.mem_append] at hx
    rcases hx with hx | hx
    · exact pkB_sub hI k (by omega) x hx
    · split at hx
      · simp only [List.mem_map, List.mem_range] at hx
        obtain ⟨r, hr, rfl⟩ := hx
        have hz := hI k (by omega) r hr
        have hlt : (Z k r).toNat < cols.length := by omega
        rw [List.getD_eq_getElem?_getD, List.getElem?_eq_getElem hlt]
        exact List.getElem_mem hlt
      · simp at hx

theorem memB_list (ps : List Nat) (b : Nat) : memB (fun i => ps.getD i 0) ps.length b = ps.contains b := by
  rw [Bool.eq_iff_iff, memB_iff, List.contains_iff_mem, List.mem_iff_getElem?]
  constructor
  · rintro ⟨i, hi, rfl⟩
    exact ⟨i, by simp [List.getElem?_eq_getElem hi]⟩
  · rintro ⟨i, hi⟩
    obtain ⟨hlt, he⟩ := List.getElem?_eq_some_iff.1 hi
    exact ⟨i, hlt, by simp [List.getElem?_eq_getElem hlt, he]⟩

def PKPost (w : World) (x : Bool) (e : Ending) (w' : World) : Prop := e = .returned (.bool x) ∧ Below w.heap.size w w'

set_option maxRecDepth 100000 in
set_option maxHeartbeats 800000 in
theorem inPK_any (tb M : Nat) (ov kv pv : Value) (S T : Nat → ByteArray) (Z : Nat → Nat → Int) (L : Nat → Nat) (cols kbs : List Nat) (n m b : Nat) (x : Bool) (w : World) (hm : m ≤ 1048576) (hL : ∀ i, i < m → L i ≤ 1048576) (hI : ∀ i, i < m → ∀ k, k < L i → 0 ≤ Z i k ∧ Z i k < n)
    (h : Table w tb M ov kv pv S T Z L cols kbs n m) (hb : PB w b) (hx : (pkB T Z L cols m).contains b = x) :
    Calls Try.prog 29 #[.pointer (some ⟨tb, 0, none⟩), .pointer (some ⟨b, 0, none⟩)] w fun e w' => PKPost w x e w' := by
  have hlen := pkB_len (T := T) (Z := Z) (cols := cols) hL m (Nat.le_refl _)
  have HSub := hide (pkB_sub (T := T) (Z := Z) (L := L) (cols := cols) (m := m) (by rw [h.clen]; exact hI) m (Nat.le_refl _))
  have HM : Hid (memB (fun i => (pkB T Z L cols m).getD i 0) (pkB T Z L cols m).length b = x) := by rw [memB_list]; exact hx
  clear hx
  go_enter Try.func29, Try.ntmps29
  go_wp2_with fail
  refine (keyColumns_any tb M ov kv pv S T Z L cols kbs n m w hm hL h).mono ?_
  rintro e w1 ⟨v, rfl, ho, hbel⟩
  have HO := hide ho
  have HBel := hide hbel
  have HT := hide h
  have HB := hide hb
  clear ho hbel h hb hI hL
  obtain ⟨a, c, g, hv, ha⟩ : ∃ a c g, v = .slice a (pkB T Z L cols m).length c ∧ (0 < (pkB T Z L cols m).length → a = some ⟨g, 0, none⟩) := by
    rcases (unhide HO).2 with ⟨rfl, h0⟩ | ⟨g, cap, cur, rfl, _⟩
    · exact ⟨none, 0, 0, by rw [h0], fun h => by omega⟩
    · exact ⟨_, _, g, rfl, fun _ => rfl⟩
  rw [hv]
  rw [hv] at HO
  clear hv
  generalize hps : pkB T Z L cols m = ps at *
  clear hps
  go_wp2_with fail
  refine (contains_any (fun i => ps.getD i 0) b a ps.length c g 0 w1 (by omega) ha ?_ ((unhide HB).kept (unhide HBel)) ?_).mono ?_
  · intro i hi
    obtain rfl := ha (by omega)
    have := (unhide HO).cells (g := g) rfl i (ptrTo (ps.getD i 0)) (by simp [List.getElem?_map, List.getElem?_eq_getElem hi])
    have hadd : (⟨g, 0, none⟩ : Addr).add i = ⟨g, 0 + i, none⟩ := by unfold Addr.add; split <;> simp_all
    rw [hadd] at this
    exact this
  · intro i hi
    have hmem : ps.getD i 0 ∈ ps := by simp [List.getElem?_eq_getElem hi]
    exact ((unhide HT).blk _ (unhide HSub _ hmem)).kept (unhide HBel)
  rintro e w2 ⟨rfl, rfl⟩
  rw [unhide HM]
  go_wp2_with fail
  go_ret
  exact ⟨rfl, unhide HBel⟩

set_option maxRecDepth 100000 in
set_option maxHeartbeats 800000 in
theorem zzInPK_any (tb M : Nat) (ov kv pv : Value) (S T : Nat → ByteArray) (Z : Nat → Nat → Int) (L : Nat → Nat) (cols kbs : List Nat) (n m b : Nat) (x : Bool) (w : World) (hm : m ≤ 1048576) (hL : ∀ i, i < m → L i ≤ 1048576) (hI : ∀ i, i < m → ∀ k, k < L i → 0 ≤ Z i k ∧ Z i k < n)
    (h : Table w tb M ov kv pv S T Z L cols kbs n m) (hb : PB w b) (hx : (pkB T Z L cols m).contains b = x) :
    Calls Try.prog 16 #[.pointer (some ⟨tb, 0, none⟩), .pointer (some ⟨b, 0, none⟩)] w fun e w' => PKPost w x e w' := by
  go_enter Try.func16, Try.ntmps16
  go_wp2_with fail
  refine (inPK_any tb M ov kv pv S T Z L cols kbs n m b x w hm hL hI h hb hx).mono ?_
  rintro e w1 ⟨rfl, hbel⟩
  have HBel := hide hbel
  clear hbel h hb hI hL hx
  go_wp2_with fail
  go_ret
  exact ⟨rfl, unhide HBel⟩

set_option maxHeartbeats 400000 in
theorem order_any (tb : Nat) (oa : Option Addr) (on oc : Nat) (w : World) (h : w.cell? ⟨tb, 1, none⟩ = some (.slice oa on oc)) :
    Calls Try.prog 14 #[.pointer (some ⟨tb, 0, none⟩)] w fun e w' => e = .returned (.slice oa on oc) ∧ w' = w := by
  go_enter Try.func14, Try.ntmps14
  go_wp2
  go_ret
  exact ⟨rfl, rfl⟩

set_option maxRecDepth 100000 in
set_option maxHeartbeats 400000 in
theorem newColumn_any (s t : ByteArray) (w : World) :
    Calls Try.prog 19 #[.string s, .string t, .string ⟨#[]⟩, .slice none 0 0, .string ⟨#[]⟩, .slice none 0 0, .bool false, .string ⟨#[]⟩, .string ⟨#[]⟩, .string ⟨#[]⟩] w fun e w' => e = .returned (.pointer (some ⟨w.heap.size, 0, none⟩)) ∧ ∃ cs, w' = w.alloc (.cells cs 61) := by
  go_enter Try.func19, Try.ntmps19
  go_wp2
  go_ret
  exact ⟨rfl, _, rfl⟩
end Go.Proofs.Qxb6613626a
