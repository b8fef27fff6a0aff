/-
  DERIVED: THE SHELF's CONTRACTS AT THIS DUMP, IN PLAIN WORDS (tools/lay-plain.mjs out of 'Qxb6613631aDoorShelf.lean', which tools/lay-shelf.mjs wrote): THE SAME DECLARATIONS UNDER THE SAME NAMES: 'import', 'namespace', 'open', 'def', 'theorem' AND NOTHING ELSE: no command of the shelf's: FOR A HAND-IN. Each laying: the table of numbers ('.._ren') and one theorem, a field a fact of the dump's own or the kernel's comparison; each contract: ONE APPLICATION.
-/
import Derived.Shelf.LaysM
import Derived.Shelf.Bytes.Bytes
import Derived.Shelf.Bytes.WriteAny
import Derived.Test.Qxb6613631aDoorProg
namespace Go.Proofs
open Go.Shelf
def Tryd.laysM183_ren : Go.Shelf.Ren := ⟨fun | 183 => 17 | n => n, fun | 130 => 33 | 37 => 25 | 0 => 0 | 93 => 45 | 3 => 3 | 5 => 5 | 91 => 43 | n => n, fun | n => n⟩
theorem Tryd.laysM183 : Go.Proofs.LaysM.n183 Tryd.prog Tryd.laysM183_ren := {
  mixed := by kernel_rfl
  f183 := Tryd.func17.trans (congrArg some (by kernel_rfl))
  t0 := Tryd.underlying0
  a0 := Tryd.isAgg0
  z0 := Tryd.sizeOf0
  v0 := Tryd.zeroValue0
  t3 := Tryd.underlying3
  a3 := Tryd.isAgg3
  z3 := Tryd.sizeOf3
  v3 := Tryd.zeroValue3
  t37 := Tryd.underlying25
  a37 := Tryd.isAgg25
  z37 := Tryd.sizeOf25
  v37 := Tryd.zeroValue25
  t93 := Tryd.underlying45
  a93 := Tryd.isAgg45
  z93 := Tryd.sizeOf45
  v93 := Tryd.zeroValue45
  t130 := Tryd.underlying33
  a130 := Tryd.isAgg33
  z130 := Tryd.sizeOf33
  v130 := Tryd.zeroValue33
  t5 := Tryd.underlying5
  a5 := Tryd.isAgg5
  z5 := Tryd.sizeOf5
  v5 := Tryd.zeroValue5
  t91 := Tryd.underlying43
  a91 := Tryd.isAgg43
  z91 := Tryd.sizeOf43
  v91 := Tryd.zeroValue43
  i0 := by kernel_rfl
  i3 := by kernel_rfl
  i5 := by kernel_rfl
  i37 := by kernel_rfl
  i91 := by kernel_rfl
  i93 := by kernel_rfl
  i130 := by kernel_rfl }
open Go.RowKit in
/-- (*bytes.Buffer).Bytes: "Bytes returns a slice of length b.Len() holding the unread portion of the buffer. .. The slice aliases the buffer content at least until the next buffer modification": A SLICE THAT OWNS THE CELLS bs ('World.ownsRow': nil where nothing was ever written). The world is as it was but for the count of draws. -/
theorem Tryd.Buffer_Bytes (B b : Nat) (bs : List Value) (w : World) (h : Lib.IsBuffer 45 5 B b bs w) :
    Calls Tryd.prog 17 #[.pointer (some ⟨b, 0, none⟩)] w fun e w' => ∃ v, e = .returned v ∧ w'.ownsRow B 5 1 v bs.length bs ∧ ∃ n, w' = w.drewN n := Any.Buffer_Bytes Tryd.laysM183 B b bs w h
def Tryd.laysM180_ren : Go.Shelf.Ren := ⟨fun | 180 => 68 | 251 => 70 | 252 => 71 | 181 => 72 | 184 => 66 | 290 => 73 | 324 => 74 | n => n, fun | 130 => 33 | 37 => 25 | 3 => 3 | 75 => 36 | 0 => 0 | 93 => 45 | 91 => 43 | 131 => 150 | 4 => 4 | 20 => 20 | 5 => 5 | 80 => 135 | 9 => 9 | n => n, fun | 14 => 5 | n => n⟩
theorem Tryd.laysM180 : Go.Proofs.LaysM.n180 Tryd.prog Tryd.laysM180_ren := {
  mixed := by kernel_rfl
  f180 := Tryd.func68.trans (congrArg some (by kernel_rfl))
  f181 := Tryd.func72.trans (congrArg some (by kernel_rfl))
  f184 := Tryd.func66.trans (congrArg some (by kernel_rfl))
  f251 := Tryd.func70.trans (congrArg some (by kernel_rfl))
  f252 := Tryd.func71.trans (congrArg some (by kernel_rfl))
  f290 := Tryd.func73.trans (congrArg some (by kernel_rfl))
  f324 := Tryd.func74.trans (congrArg some (by kernel_rfl))
  t0 := Tryd.underlying0
  a0 := Tryd.isAgg0
  z0 := Tryd.sizeOf0
  v0 := Tryd.zeroValue0
  t3 := Tryd.underlying3
  a3 := Tryd.isAgg3
  z3 := Tryd.sizeOf3
  v3 := Tryd.zeroValue3
  t4 := Tryd.underlying4
  a4 := Tryd.isAgg4
  z4 := Tryd.sizeOf4
  v4 := Tryd.zeroValue4
  t20 := Tryd.underlying20
  a20 := Tryd.isAgg20
  z20 := Tryd.sizeOf20
  v20 := Tryd.zeroValue20
  t37 := Tryd.underlying25
  a37 := Tryd.isAgg25
  z37 := Tryd.sizeOf25
  v37 := Tryd.zeroValue25
  t75 := Tryd.underlying36
  a75 := Tryd.isAgg36
  z75 := Tryd.sizeOf36
  v75 := Tryd.zeroValue36
  t91 := Tryd.underlying43
  a91 := Tryd.isAgg43
  z91 := Tryd.sizeOf43
  v91 := Tryd.zeroValue43
  t93 := Tryd.underlying45
  a93 := Tryd.isAgg45
  z93 := Tryd.sizeOf45
  v93 := Tryd.zeroValue45
  t130 := Tryd.underlying33
  a130 := Tryd.isAgg33
  z130 := Tryd.sizeOf33
  v130 := Tryd.zeroValue33
  t131 := Tryd.underlying150
  a131 := Tryd.isAgg150
  z131 := Tryd.sizeOf150
  v131 := Tryd.zeroValue150
  g14 := by kernel_rfl
  t5 := Tryd.underlying5
  a5 := Tryd.isAgg5
  z5 := Tryd.sizeOf5
  v5 := Tryd.zeroValue5
  t9 := Tryd.underlying9
  a9 := Tryd.isAgg9
  z9 := Tryd.sizeOf9
  v9 := Tryd.zeroValue9
  t80 := Tryd.underlying135
  a80 := Tryd.isAgg135
  z80 := Tryd.sizeOf135
  v80 := Tryd.zeroValue135
  i0 := by kernel_rfl
  i3 := by kernel_rfl
  i4 := by kernel_rfl
  i5 := by kernel_rfl
  i9 := by kernel_rfl
  i20 := by kernel_rfl
  i37 := by kernel_rfl
  i75 := by kernel_rfl
  i80 := by kernel_rfl
  i91 := by kernel_rfl
  i93 := by kernel_rfl
  i130 := by kernel_rfl
  i131 := by kernel_rfl
  m14 := by kernel_rfl }
open Go.RowKit in
/-- (*bytes.Buffer).Write: "Write appends the contents of p to the buffer, growing the buffer as needed. The return value n is the length of p; err is always nil." -/
theorem Tryd.Buffer_Write_any (B b : Nat) (bs cs : List Value) (a : Addr) (n c : Nat) (w : World) (h : Lib.IsBuffer 45 5 B b bs w) (hBw : B ≤ w.heap.size) (h1 : ∀ v ∈ bs, v.oneCell' = true) (hn : cs.length = n) (hab : a.block ≠ b) (hsrc : ∀ j v, cs[j]? = some v → w.cell? (a.add j) = some v) (h1c : ∀ v ∈ cs, v.oneCell' = true) (hlim : bs.length + n ≤ 140737488355328) :
    Calls Tryd.prog 68 #[.pointer (some ⟨b, 0, none⟩), .slice (some a) n c] w fun e w' => e = .returned (.tuple #[.int .i64 n, .nilIface]) ∧ Lib.IsBuffer 45 5 B b (bs ++ cs) w' ∧ Below B w w' ∧ Lib.OthersKept 5 (some b) w w' := Any.Buffer_Write_any Tryd.laysM180 B b bs cs a n c w h hBw h1 hn hab hsrc h1c hlim
end Go.Proofs
