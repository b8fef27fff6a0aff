import Derived.Test.Qxb6613631aDoorB
import Derived.Deep.RegionLaw
import Derived.Laws.CopyOwn
import Derived.Deep.AppendLies
namespace Go.Proofs.Qxb6613631aDoor
open Go.RowKit

/-- all blocks of w but those of l are as they were; the streams too -/
structure KeptBut (l : List Nat) (w w' : World) : Prop where
  os : w'.os = w.os
  tape : w'.tape = w.tape
  output : w'.output = w.output
  size : w.heap.size ≤ w'.heap.size
  block : ∀ k, k < w.heap.size → k ∉ l → w'.heap[k]? = w.heap[k]?
theorem KeptBut.refl (l : List Nat) (w : World) : KeptBut l w w := ⟨rfl, rfl, rfl, Nat.le_refl _, fun _ _ _ => rfl⟩
theorem KeptBut.trans {l : List Nat} {a b c : World} (h : KeptBut l a b) (k : KeptBut l b c) : KeptBut l a c :=
  ⟨k.os.trans h.os, k.tape.trans h.tape, k.output.trans h.output, Nat.le_trans h.size k.size, fun i hi hl => (k.block i (Nat.lt_of_lt_of_le hi h.size) hl).trans (h.block i hi hl)⟩
theorem KeptBut.mono {l l' : List Nat} {a b : World} (h : KeptBut l a b) (hl : ∀ x ∈ l, x ∈ l') : KeptBut l' a b := ⟨h.os, h.tape, h.output, h.size, fun k hk hn => h.block k hk fun hm => hn (hl k hm)⟩
/-- what lies from the old heap's end on may be let go too -/
theorem KeptBut.new {l l' : List Nat} {a b c : World} (h : KeptBut l a b) (k : KeptBut l' b c) (hl : ∀ x ∈ l', x ∈ l ∨ a.heap.size ≤ x) : KeptBut l a c :=
  ⟨k.os.trans h.os, k.tape.trans h.tape, k.output.trans h.output, Nat.le_trans h.size k.size, fun i hi hn => (k.block i (Nat.lt_of_lt_of_le hi h.size) (fun hm => by rcases hl i hm with h1 | h1; exact hn h1; omega)).trans (h.block i hi hn)⟩
theorem KeptBut.drew {l : List Nat} {a b : World} (h : KeptBut l a b) : KeptBut l a b.drew := ⟨h.os, h.tape, h.output, h.size, h.block⟩
theorem KeptBut.drewN {l : List Nat} {a b : World} (h : KeptBut l a b) (q : Nat) : KeptBut l a (b.drewN q) := ⟨h.os, h.tape, h.output, h.size, h.block⟩
theorem KeptBut.alloc {l : List Nat} {a b : World} (h : KeptBut l a b) (o : Obj) : KeptBut l a (b.alloc o) :=
  h.trans ⟨rfl, rfl, rfl, by simp, fun k hk _ => Below.heap_alloc _ _ _ hk⟩
theorem KeptBut.setCell {l : List Nat} {a b : World} (h : KeptBut l a b) {p : Addr} (hp : p.block ∈ l) (u : Value) : KeptBut l a (b.setCell p u) :=
  h.trans ⟨rfl, rfl, rfl, by simp [World.setCell], fun k _ hn => Below.heap_setCell _ _ _ _ (fun e => hn (by rw [e]; exact hp))⟩
theorem KeptBut.setRow {l : List Nat} {a b : World} (h : KeptBut l a b) {g : Nat} (hg : g ∈ l) (cs : Array Value) : KeptBut l a (b.setRow g cs) :=
  h.trans ⟨rfl, rfl, rfl, by simp [World.setRow], fun k _ hn => setRow_other _ _ _ _ (fun e => hn (by rw [e]; exact hg))⟩
theorem KeptBut.below {l : List Nat} {a b : World} {B : Nat} (h : KeptBut l a b) (hB : B ≤ a.heap.size) (hl : ∀ x ∈ l, B ≤ x) : Below B a b :=
  ⟨h.os, h.tape, h.output, h.size, fun k hk => h.block k (by omega) fun hm => by have := hl k hm; omega⟩

/-- what is left of the buffer's cells behind the write -/
def laid (buf : Array Value) (off : Nat) (cs : List Value) : Array Value := (buf.toList.take off ++ cs ++ buf.toList.drop (off + cs.length)).toArray
/-- copy as one step of a region that draws, the world written out -/
theorem step_copy_exact {P : Program} {ops : Array Oper} {o : Oper} {a : Act} {w : World} {K : Act → World → Prop} {Q : Exit → Act → World → Prop} {E : Prop} (hgd : o.guard = none) (d s : Operand) (dT sT : TypeId)
    (ho : o.op = .call { callee := .builtin .copy, args := #[d, s], argTypes := #[dT, sT] }) (elem : TypeId) (hu : P.underlying dT = some (.slice elem)) (hsz : (P.info? elem).map (·.size) = some 1)
    (g off dLen dCap : Nat) (ad : Addr) (sLen sCap : Nat) (hd : a.eval d = .slice (some ⟨g, off, none⟩) dLen dCap) (hs : a.eval s = .slice (some ad) sLen sCap)
    (cur : Array Value) (t : TypeId) (hg : w.heap[g]? = some (.cells cur t (0, 0))) (cs : List Value) (hn : cs.length = Nat.min sLen dLen)
    (hsrc : ∀ j v, cs[j]? = some v → w.cell? (ad.add j) = some v) (hfit : off + cs.length ≤ cur.size) (h1 : ∀ v ∈ cs, v.oneCell' = true)
    (m : Nat) (hm : cs.length = m) (h : K (a.put o.dst (.int .i64 (m : Int))) (w.setRow g (laid cur off cs))) :
    if Region.wanted o (yielded ops a.tmps) = true then Oper.wp P o a w K Q else E := by
  have hw : Region.wanted o (yielded ops a.tmps) = true := by simp [Region.wanted, hgd]
  rw [if_pos hw]
  have hrun := run_copy_row (P := P) w dT sT o.type elem g off dLen dCap ad sLen sCap cur t cs hu hsz hg hn hsrc hfit h1
  unfold Oper.wp
  simp only [execOp, ho, resolve, invoke, builtin, Sem.run_bind, Sem.run_pure, Result.andThen_ok, List.map_toArray, List.map_cons, List.map_nil, hd, hs, hrun]
  subst hm
  exact h
theorem step_copy_none {P : Program} {ops : Array Oper} {o : Oper} {a : Act} {w : World} {K : Act → World → Prop} {Q : Exit → Act → World → Prop} {E : Prop} (hgd : o.guard = none) (d s : Operand) (dT sT : TypeId)
    (ho : o.op = .call { callee := .builtin .copy, args := #[d, s], argTypes := #[dT, sT] }) (elem : TypeId) (hu : P.underlying dT = some (.slice elem)) (hsz : (P.info? elem).map (·.size) = some 1)
    (dp sp : Option Addr) (dLen dCap sLen sCap : Nat) (hd : a.eval d = .slice dp dLen dCap) (hs : a.eval s = .slice sp sLen sCap) (hn : Nat.min sLen dLen = 0)
    (h : K (a.put o.dst (goInt 0)) w) :
    if Region.wanted o (yielded ops a.tmps) = true then Oper.wp P o a w K Q else E := by
  have hw : Region.wanted o (yielded ops a.tmps) = true := by simp [Region.wanted, hgd]
  rw [if_pos hw]
  have hrun := run_copy_none (P := P) w dT sT o.type elem dp sp dLen dCap sLen sCap hu hsz hn
  unfold Oper.wp
  simp only [execOp, ho, resolve, invoke, builtin, Sem.run_bind, Sem.run_pure, Result.andThen_ok, List.map_toArray, List.map_cons, List.map_nil, hd, hs, hrun]
  exact h
theorem Tryd.size5 : (Tryd.prog.info? 5).map (·.size) = some 1 := by kernel_rfl

/-- the bufio.Writer at bb: its buffer's block gb (4096 bytes), nb of them taken -/
def BWc (gb nb : Nat) (wr : Value) : Array Value := #[.nilIface, .slice (some ⟨gb, 0, none⟩) 4096 4096, .int .i64 nb, wr]
structure BW (w : World) (bb gb : Nat) (buf : Array Value) (nb : Nat) (wr : Value) : Prop where
  hb : w.heap[bb]? = some (.cells (BWc gb nb wr) 120 (0, 0))
  hg : w.heap[gb]? = some (.cells buf 5 (0, 0))
  len : buf.size = 4096
  ne : bb ≠ gb

set_option maxRecDepth 100000 in
set_option maxHeartbeats 400000 in
theorem available_any (bb gb nb : Nat) (w : World) (hn : nb ≤ 4096) (c1 : w.cell? ⟨bb, 1, none⟩ = some (.slice (some ⟨gb, 0, none⟩) 4096 4096)) (c2 : w.cell? ⟨bb, 2, none⟩ = some (.int .i64 nb)) :
    Calls Tryd.prog 76 #[.pointer (some ⟨bb, 0, none⟩)] w fun e w' => e = .returned (.int .i64 (4096 - nb)) ∧ ∃ q, w' = w.drewN q := by
  go_enter Tryd.func76, Tryd.ntmps76
  go_wp2
  go_quiet (fail)
  go_wp2
  go_ret
  exact ⟨rfl, _, rfl⟩

theorem laid_size (buf : Array Value) (off : Nat) (cs : List Value) (h : off + cs.length ≤ buf.size) : (laid buf off cs).size = buf.size := by
  simp [laid]; omega

def BWPost (w : World) (bb gb : Nat) (buf : Array Value) (nb n : Nat) (wr : Value) (e : Ending) (w' : World) : Prop :=
  e = .returned (.tuple #[.int .i64 n, .nilIface]) ∧ BW w' bb gb buf nb wr ∧ KeptBut [bb, gb] w w'

theorem BW.drewN {w : World} {bb gb : Nat} {buf : Array Value} {nb : Nat} {wr : Value} (h : BW w bb gb buf nb wr) (q : Nat) : BW (w.drewN q) bb gb buf nb wr := ⟨h.hb, h.hg, h.len, h.ne⟩

theorem BW.cells {w : World} {bb gb : Nat} {buf : Array Value} {nb : Nat} {wr : Value} (h : BW w bb gb buf nb wr) :
    w.cell? ⟨bb, 0, none⟩ = some .nilIface ∧ w.cell? ⟨bb, 1, none⟩ = some (.slice (some ⟨gb, 0, none⟩) 4096 4096) ∧ w.cell? ⟨bb, 2, none⟩ = some (.int .i64 nb) ∧ w.cell? ⟨bb, 3, none⟩ = some wr :=
  ⟨by rw [cell_of_row _ _ _ _ _ _ h.hb]; rfl, by rw [cell_of_row _ _ _ _ _ _ h.hb]; rfl, by rw [cell_of_row _ _ _ _ _ _ h.hb]; rfl, by rw [cell_of_row _ _ _ _ _ _ h.hb]; rfl⟩
theorem BW.rowed {w : World} {bb gb : Nat} {buf : Array Value} {nb : Nat} {wr : Value} (h : BW w bb gb buf nb wr) (X : Array Value) (hX : X.size = 4096) : BW (w.setRow gb X) bb gb X nb wr :=
  ⟨by rw [setRow_other _ _ _ _ h.ne]; exact h.hb, setRow_heap _ _ _ _ _ _ h.hg, hX, h.ne⟩
theorem BW.counted {w : World} {bb gb : Nat} {buf : Array Value} {nb : Nat} {wr : Value} (h : BW w bb gb buf nb wr) (n : Nat) : BW (w.setCell ⟨bb, 2, none⟩ (.int .i64 n)) bb gb buf n wr :=
  ⟨by rw [heap_setCell_at h.hb]; rfl, by rw [Below.heap_setCell _ _ _ _ (Ne.symm h.ne)]; exact h.hg, h.len, h.ne⟩

set_option maxRecDepth 100000 in
set_option maxHeartbeats 800000 in
theorem write22_any (bb gb g : Nat) (buf : Array Value) (wr : Value) (cs : List Value) (t : TypeId) (w : World) (h : BW w bb gb buf 0 wr) (hl : cs.length = 22) (h1 : ∀ v ∈ cs, v.oneCell' = true)
    (hsrc : w.heap[g]? = some (.cells cs.toArray t (0, 0))) :
    Calls Tryd.prog 77 #[.pointer (some ⟨bb, 0, none⟩), .slice (some ⟨g, 0, none⟩) 22 22] w fun e w' => BWPost w bb gb (laid buf 0 cs) 22 22 wr e w' := by
  obtain ⟨c0, c1, c2, c3⟩ := h.cells
  have HA := hide (available_any bb gb 0 w (by omega) c1 c2)
  have HW := hide h
  have HS := hide hsrc
  have H1 := hide h1
  have HL := hide hl
  have hgl : gb < w.heap.size := lt_of_block h.hg
  have HR : Hid (∀ q, BW ((w.drewN q).setRow gb (laid buf 0 cs)) bb gb (laid buf 0 cs) 0 wr) := fun q => (h.drewN q).rowed _ (by rw [laid_size _ _ _ (by rw [h.len, hl]; omega)]; exact h.len)
  have y2 : ∀ q, ((w.drewN q).setRow gb (laid buf 0 cs)).cell? ⟨bb, 2, none⟩ = some (.int .i64 0) := fun q => (unhide HR q).cells.2.2.1
  have y3 : ∀ q, ((w.drewN q).setRow gb (laid buf 0 cs)).frozen? ⟨bb, 2, none⟩ = false := fun q => free_of_block (unhide HR q).hb
  have HFit : Hid (0 + cs.length ≤ buf.size) := by rw [h.len, hl]; show 0 + 22 ≤ 4096; omega
  clear h hsrc h1 hl c3
  go_enter Tryd.func77, Tryd.ntmps77
  go_wp2_with fail
  refine wp_loop_rounds 1 ?_
  rw [rounds_succ]
  go_wp2_with (go_at_call 76; refine (unhide HA).mono ?_; rintro e w1 ⟨rfl, q, rfl⟩)
  go_region_law (refine step_copy_exact rfl (.tmp 80) (.tmp 81) 25 25 rfl 5 Tryd.underlying25 Tryd.size5 gb 0 4096 4096 ⟨g, 0, none⟩ 22 22 (by simp [Act.eval, Act.put]) (by simp [Act.eval, Act.put]) buf 5 (unhide HW).hg cs (by rw [unhide HL]; rfl) (by intro j v hv; exact World.news_of_block (w := w) (cs := cs.toArray) (unhide HS) j v (by simpa using hv)) (unhide HFit) (unhide H1) 22 (unhide HL) ?_)
  all_goals
    go_wp2_with fail
    go_ret2
    exact ⟨rfl, (unhide HR _).counted 22, (((KeptBut.refl _ w).drewN _).setRow (by simp) _).setCell (by simp) _⟩
end Go.Proofs.Qxb6613631aDoor
