import Derived.Test.Qxb6613631aDoorE
import Derived.Test.Qxb6613631aDoorShelf
namespace Go.Proofs.Qxb6613631aDoor
open Go.RowKit

/-- the 22 bytes of the end record -/
def endRec : List Value := [80, 75, 5, 6, 0, 0, 0, 0, 0, 0, 0, 0, 0, 0, 0, 0, 0, 0, 0, 0, 0, 0].map (Value.int .u8)
theorem endRec_one : ∀ v ∈ endRec, v.oneCell' = true := by
  intro v hv
  obtain ⟨x, _, rfl⟩ := List.mem_map.1 hv
  rfl

theorem flush_full (B bb gb b : Nat) (buf : Array Value) (bs : List Value) (w : World) (h : BW w bb gb (laid buf 0 endRec) 22 (.iface 33 (.pointer (some ⟨b, 0, none⟩)))) (hbb : B ≤ bb) (hne : bb ≠ b) (hgb : gb ≠ b)
    (hI : Lib.IsBuffer 45 5 B b bs w) (h1 : ∀ v ∈ bs, v.oneCell' = true) (hlim : bs.length ≤ 1048576) :
    Calls Tryd.prog 33 #[.pointer (some ⟨bb, 0, none⟩)] w (FlPost w B b (bs ++ endRec)) := by
  refine flush_any B bb gb b _ _ w h hbb hne fun q => ?_
  refine (Tryd.Buffer_Write_any B b bs endRec ⟨gb, 0, none⟩ 22 4096 (w.drewN q) hI (Nat.le_trans hI.1 (Nat.le_of_lt hI.lt)) h1 rfl hgb ?_ endRec_one (by omega)).mono ?_
  · intro j v hj
    have hj' : j < 22 := (List.getElem?_eq_some_iff.1 hj).1
    rw [Lib.addr_add, Nat.zero_add]
    show w.cell? ⟨gb, j, none⟩ = some v
    rw [cell_of_row _ _ _ _ _ _ h.hg]
    simp only [laid, List.take_zero, List.nil_append]
    rw [List.getElem?_toArray, List.getElem?_append_left (by simpa [endRec] using hj')]
    exact hj
  · rintro e w' ⟨rfl, h2, h3, h4⟩
    exact ⟨rfl, h2, ⟨h3.os, h3.tape, h3.output, h3.size, h3.block⟩, h4⟩
end Go.Proofs.Qxb6613631aDoor
