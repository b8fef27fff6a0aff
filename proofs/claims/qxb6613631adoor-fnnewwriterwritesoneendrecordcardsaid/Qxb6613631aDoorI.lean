import Derived.Test.Qxb6613631aDoorG
import Derived.Test.Qxb6613631aDoorH
namespace Go.Proofs.Qxb6613631aDoor
open Go.RowKit

set_option maxRecDepth 100000 in
set_option maxHeartbeats 400000 in
theorem npzClose_any (p zb B b : Nat) (w : World) (bs : List Value) (hc : w.cell? ⟨p, 0, none⟩ = some (.pointer (some ⟨zb, 0, none⟩)))
    (HZ : Calls Tryd.prog 20 #[.pointer (some ⟨zb, 0, none⟩)] w (FlPost w B b bs)) :
    Calls Tryd.prog 16 #[.pointer (some ⟨p, 0, none⟩)] w (FlPost w B b bs) := by
  have HX := hide HZ
  clear HZ
  go_enter Tryd.func16, Tryd.ntmps16
  go_wp2_with (go_at_call 20; refine (unhide HX).mono ?_; rintro e w1 ⟨rfl, h1, h2⟩; have H1 := hide h1; have H2 := hide h2; clear h1 h2)
  go_ret
  exact ⟨rfl, unhide H1, unhide H2⟩

/-- what the chain of new blocks holds -/
theorem chain_blocks (w : World) (wr cm : Value) (w2 : World)
    (hb : Below ((((w.alloc (.cells BSize 5)).alloc (.cells (BWc w.heap.size 0 wr) 120)).alloc (.cells #[.iface 61 (.pointer (some ⟨w.heap.size + 1, 0, none⟩)), .int .i64 0] 64)).alloc (.cells #[.pointer (some ⟨w.heap.size + 2, 0, none⟩), .slice none 0 0, .pointer none, .bool false, cm, .string ⟨#[]⟩, .nilFunc] 70)).heap.size
      ((((w.alloc (.cells BSize 5)).alloc (.cells (BWc w.heap.size 0 wr) 120)).alloc (.cells #[.iface 61 (.pointer (some ⟨w.heap.size + 1, 0, none⟩)), .int .i64 0] 64)).alloc (.cells #[.pointer (some ⟨w.heap.size + 2, 0, none⟩), .slice none 0 0, .pointer none, .bool false, cm, .string ⟨#[]⟩, .nilFunc] 70)) w2) :
    CW w2 (w.heap.size + 2) 0 (w.heap.size + 1) w.heap.size BSize 0 wr ∧ w2.heap[w.heap.size + 3]? = some (.cells (ZWc (w.heap.size + 2) false cm) 70 (0, 0)) ∧ (∀ k, k < w.heap.size → w2.heap[k]? = w.heap[k]?) ∧ Below w.heap.size w w2 := by
  have hs := hb.size
  have hk := hb.block
  simp only [World.size_alloc] at hs hk
  have e0 : ∀ (W : World) (o : Obj) (n : Nat), n = W.heap.size → (W.alloc o).heap[n]? = some o := fun W o n hn => by subst hn; exact heap_alloc_new W o
  have a0 := (hk w.heap.size (by omega)).trans ((Below.heap_alloc _ _ _ (by simp; omega)).trans ((Below.heap_alloc _ _ _ (by simp; omega)).trans ((Below.heap_alloc _ _ _ (by simp)).trans (e0 _ _ _ rfl))))
  have a1 := (hk (w.heap.size + 1) (by omega)).trans ((Below.heap_alloc _ _ _ (by simp)).trans ((Below.heap_alloc _ _ _ (by simp)).trans (e0 _ _ _ (by simp))))
  have a2 := (hk (w.heap.size + 2) (by omega)).trans ((Below.heap_alloc _ _ _ (by simp)).trans (e0 _ _ _ (by simp)))
  have a3 := (hk (w.heap.size + 3) (by omega)).trans (e0 _ _ _ (by simp))
  have hlow : ∀ k, k < w.heap.size → w2.heap[k]? = w.heap[k]? := fun k h => (hk k (by omega)).trans ((Below.heap_alloc _ _ _ (by simp; omega)).trans ((Below.heap_alloc _ _ _ (by simp; omega)).trans ((Below.heap_alloc _ _ _ (by simp; omega)).trans (Below.heap_alloc _ _ _ h))))
  exact ⟨⟨⟨a1, a0, BSize_size, by omega⟩, a2, by omega, by omega⟩, a3, hlow, ⟨hb.os, hb.tape, hb.output, by omega, hlow⟩⟩

def ZZPost (w : World) (B : Nat) (bs : List Value) (e : Ending) (w' : World) : Prop :=
  ∃ u, e = .returned (.tuple #[u, .bool false]) ∧ w'.ownsRow B 5 1 u (bs ++ endRec).length (bs ++ endRec) ∧ Below B w w'

theorem buffer_kept (w w2 : World) (B b : Nat) (v : Value) (bs : List Value) (hb : b = w.heap.size) (hB : B ≤ b) (hr : w.ownsRow B 5 1 v bs.length bs)
    (hl : ∀ k, k < w.heap.size + 1 → w2.heap[k]? = (w.alloc (.cells #[v, .int .i64 0, .int .i8 0] 45)).heap[k]?) : Lib.IsBuffer 45 5 B b bs w2 := by
  subst hb
  refine ⟨hB, v, 0, (hl _ (by omega)).trans (heap_alloc_new w _), ownsRow_kept hr fun k hk => (hl k (by omega)).trans (Below.heap_alloc _ _ _ hk), ?_⟩
  intro hv
  rcases hr.2 with ⟨rfl, _⟩ | ⟨g, cap, cur, rfl, _, hg, _⟩
  · cases hv
  · have hl2 := lt_of_block hg
    have : g = w.heap.size := Option.some.inj hv
    omega

set_option maxRecDepth 100000 in
set_option maxHeartbeats 800000 in
theorem zz_any (B : Nat) (a : Option Addr) (n c : Nat) (bs : List Value) (w : World) (hB : B ≤ w.heap.size) (hr : w.ownsRow B 5 1 (.slice a n c) bs.length bs) (h1 : ∀ v ∈ bs, v.oneCell' = true) (hlim : bs.length ≤ 1048576) :
    Calls Tryd.prog 12 #[.slice a n c] w (ZZPost w B bs) := by
  have HR := hide hr
  clear hr
  have H1 := hide h1
  clear h1
  go_enter Tryd.func12, Tryd.ntmps12
  go_wp2_with (first | (go_at_call 14; refine (newBuffer_any _ a n c _ rfl).mono ?_; rintro e w1 ⟨rfl, rfl⟩) | (go_at_call 15; refine (newNpz_any _ _).mono ?_; rintro e w2 ⟨p, cm, wz, rfl, rfl, hp, hb⟩; obtain ⟨q1, q2, q3, q4⟩ := chain_blocks _ _ _ _ hb; have Q1 := hide q1; have Q2 := hide q2; have Q3 := hide q3; have Q4 := hide q4; clear q1 q2 q3 q4 hb))
  simp only [World.size_alloc] at hp
  have HC := hide (npzClose_any p (w.heap.size + 1 + 3) B w.heap.size w2 (bs ++ endRec) hp (zipClose_any B (w.heap.size + 1 + 3) (w.heap.size + 1 + 2) (w.heap.size + 1 + 1) (w.heap.size + 1) w.heap.size cm BSize bs w2 (by simpa using unhide Q1) (by simpa using unhide Q2)
    (by omega) (by omega) (by omega) (by omega) (by omega) (by omega) (by omega) (by omega) (by omega)
    (fun w' hk => buffer_kept w w' B w.heap.size (.slice a n c) bs rfl hB (unhide HR) fun k hk' => (hk.block k (Nat.lt_of_lt_of_le hk' (by have := (unhide Q4).size; simpa using this)) (by simp; omega)).trans (unhide Q3 k (by simpa using hk'))) (unhide H1) hlim))
  have HB0 := hide (((Below.refl B w).alloc hB (.cells #[.slice a n c, .int .i64 0, .int .i8 0] 45)).trans ((unhide Q4).mono (by simp; omega)))
  clear Q1 Q2 Q3 Q4
  refine (unhide HC).mono ?_
  rintro e w3 ⟨rfl, h3, b3⟩
  have H3 := hide h3
  have HB3 := hide b3
  clear h3 b3 HC hp
  go_wp2_with fail
  go_region_with (go_at_call 17; refine (Tryd.Buffer_Bytes B w.heap.size (bs ++ endRec) _ (by exact isBuffer_drewN (unhide H3) _)).mono ?_; rintro e w4 ⟨u, rfl, h4, q, rfl⟩)
  all_goals
    go_wp2_with fail
    go_ret2
    have hbe := (unhide HB0).trans (unhide HB3)
    exact ⟨_, rfl, h4, ⟨hbe.os, hbe.tape, hbe.output, hbe.size, hbe.block⟩⟩
end Go.Proofs.Qxb6613631aDoor
