import Derived.Test.Qxb6613727aD
import Derived.Deep.WholeRow
namespace Go.Proofs.Qxb6613727a
open Go.RowKit

/-- the store of a whole value into the block made last -/
theorem wpList_store_new {P : Program} {w : World} {ops : Array Oper} {rest : List Oper} {o : Oper} {a : Act} {Q : Exit → Act → World → Prop} (hgd : o.guard = none) (ty : TypeId) (x y : Operand) (ho : o.op = .store ty x y)
    (w0 : World) (c c' : Array Value) (hw : w = w0.alloc (.cells c ty)) (g : Nat) (hg : g = w0.heap.size) (hx : a.eval x = .pointer (some ⟨g, 0, none⟩)) (hy : a.eval y = .agg c')
    (hi : (P.info? ty).map (·.size) = some c'.size) (hs : c.size = c'.size) (h1 : c'.all (·.oneCell') = true)
    (h : wpList P ops Q rest (a.put o.dst undef) (w0.alloc (.cells c' ty))) : wpList P ops Q (o :: rest) a w := by
  refine wpList_plain hgd fun K hK => ?_
  subst hw
  subst hg
  unfold Oper.wp execOp
  simp only [ho, hx, hy, Instr.storeAt, Instr.sureAddr, Sem.run_bind, Sem.run_pure, Result.andThen_ok, run_storeVar_new (P := P) w0 ty c c' hi hs h1]
  exact hK _ _ h

theorem wpList_alloc_at {P : Program} {ops : Array Oper} {rest : List Oper} {o : Oper} {a : Act} {w : World} {Q : Exit → Act → World → Prop} (hgd : o.guard = none) (t : TypeId) (ho : o.op = .alloc t)
    (i : TypeInfo) (z : Value) (Z : Array Value) (hZ : z.cells = Z) (hi : P.info? t = some i) (hz : i.zero = some z)
    (h : wpList P ops Q rest (a.put o.dst (.pointer (some ⟨w.heap.size, 0, none⟩))) (w.alloc (.cells Z t))) : wpList P ops Q (o :: rest) a w := by
  refine wpList_plain hgd fun K hK => ?_
  subst hZ
  have hr : (Instr.alloc t true (.tuple #[])).run P w = .ok (.pointer (some ⟨w.heap.size, 0, none⟩)) (w.alloc (.cells z.cells t)) := by
    simp [Instr.alloc, zeroValue, typeInfo, hi, hz, newVar, newRow]
  unfold Oper.wp execOp
  simp only [ho, Sem.run_bind, hr, Result.andThen_ok]
  exact hK _ _ h

def TPost (w : World) (n : Nat) (s : Int) (e : Ending) (w' : World) : Prop :=
  ∃ (a : Option Addr) (c : Nat), e = .returned (.slice a n c) ∧ Below w.heap.size w w' ∧ (0 < n → ∃ g, a = some ⟨g, 0, none⟩ ∧ g < w'.heap.size ∧ w'.cell? ⟨g, 1, none⟩ = some (.int .u64 s))

/-- what stands in the new row's block behind k rounds -/
structure TR (w wr : World) (n k : Nat) (s : Int) : Prop where
  row : ∃ R, wr.heap[w.heap.size]? = some (.cells R 50 (0, 0)) ∧ R.size = n * 131
  seq : 0 < k → wr.cell? ⟨w.heap.size, 1, none⟩ = some (.int .u64 s)
  bel : Below w.heap.size w wr

theorem TR.there {w wr : World} {n k : Nat} {s : Int} (h : TR w wr n k s) (hk : k < n) (A : Array Value) (m : Nat) (hm : m = 131) : (wr.alloc (.cells A 44)).there w.heap.size (k * 131) m := by
  subst hm
  obtain ⟨R, h1, h2⟩ := h.row
  have h1' : (wr.alloc (.cells A 44)).heap[w.heap.size]? = some (.cells R 50 (0, 0)) := (Below.heap_alloc _ _ _ (lt_of_block h1)).trans h1
  intro j hj
  have hle := Nat.mul_le_mul_right 131 (show k + 1 ≤ n by omega)
  refine ⟨?_, by simp [World.frozen?, h1']⟩
  rw [cell_of_row _ _ _ _ _ _ h1', Array.getElem?_eq_getElem (by rw [h2]; omega)]
  rfl
theorem TR.next {w wr : World} {n k : Nat} {s : Int} (h : TR w wr n k s) (hk : k < n) (A : Array Value) (Y : Array Value) (hY : Y.size = 131) (y1 : k = 0 → Y[1]? = some (.int .u64 s)) :
    TR w ((wr.alloc (.cells A 44)).setCells w.heap.size (k * 131) Y.toList) n (k + 1) s := by
  obtain ⟨R, h1, h2⟩ := h.row
  have h1' : (wr.alloc (.cells A 44)).heap[w.heap.size]? = some (.cells R 50 (0, 0)) := (Below.heap_alloc _ _ _ (lt_of_block h1)).trans h1
  obtain ⟨⟨R', h3, h4⟩, h5⟩ := setCells_facts Y.toList (k * 131) _ R h1'
  refine ⟨⟨R', h3, h4.trans h2⟩, fun _ => ?_, (h.bel.alloc h.bel.size _).trans (h5 _ (Nat.le_refl _))⟩
  by_cases e : k = 0
  · subst e
    have ht := h.there hk A Y.toList.length (by simpa using hY)
    have := World.cell?_setCells_in w.heap.size Y.toList (0 * 131) (wr.alloc (.cells A 44)) (fun j hj => (ht j hj).1) 1 (by simp; omega)
    rw [show 0 * 131 + 1 = 1 from rfl] at this
    rw [this, ← y1 rfl]
    simp [hY]
  · rw [World.cell?_setCells_out w.heap.size Y.toList (k * 131) _ _ (fun _ _ => Or.inl (by show 1 < k * 131; omega)), World.cell?_of_block (w := wr) (Below.heap_alloc _ _ _ (lt_of_block h1))]
    exact h.seq (by omega)

theorem Try.info50 : (Try.prog.info? 50).map (fun i => (i.size, i.bytes, i.zero.map (fun z => z.cells.size))) = some (131, 168, some 131) := by kernel_rfl
theorem made50 (n : Nat) (hn : n ≤ 131072) (w : World) : ∃ M : Array Value, M.size = n * 131 ∧ (Instr.makeSlice 27 (.int .i64 (n : Int)) (.int .i64 (n : Int))).run Try.prog w = .ok (.slice (some ⟨w.heap.size, 0, none⟩) n n) (w.alloc (.cells M 50)) := by
  obtain ⟨i, h1, h2⟩ := Option.map_eq_some_iff.1 Try.info50
  simp only [Prod.mk.injEq] at h2
  obtain ⟨z, h3, h4⟩ := Option.map_eq_some_iff.1 h2.2.2
  have hr := run_make (P := Try.prog) w 27 50 i z Try.underlying27 h1 h3 .i64 .i64 n n (by omega) (Int.le_refl _) (by rw [h2.2.1]; omega) (by omega)
  simp only [Int.toNat_natCast] at hr
  exact ⟨_, by rw [size_madeCells, h2.1], hr⟩

def sub (l : List Value) (o : Nat) : List Value := (l.drop o).take 32
theorem sub_len (l : List Value) (o : Nat) (h : l.length = 131) (ho : o ≤ 99) : (sub l o).length = 32 := by simp [sub]; omega
theorem sub_one (l : List Value) (o : Nat) (h : ∀ v ∈ l, v.oneCell' = true) : ∀ v ∈ sub l o, v.oneCell' = true := fun v hv => h v (List.mem_of_mem_drop (List.mem_of_mem_take hv))
theorem sub_at (W : World) (l : List Value) (o : Nat) : (W.alloc (.cells l.toArray 44)).rangeAt W.heap.size o (sub l o) := by
  intro j v hv
  have hj : j < 32 := by
    have := (List.getElem?_eq_some_iff.1 hv).1
    simp [sub] at this
    omega
  rw [cell_of_row _ _ _ _ _ _ (heap_alloc_new W _)]
  simp only [sub, List.getElem?_take, hj, if_true, List.getElem?_drop] at hv
  simpa using hv

set_option maxRecDepth 100000 in
set_option maxHeartbeats 1600000 in
theorem to_any (a : Option Addr) (n c b off : Nat) (EC : Nat → List Value) (S : Nat → Int) (w : World) (h : CK w a n b off EC S) (hn : n ≤ 131072) :
    Calls Try.prog 6 #[.slice a n c] w (TPost w n (S 0)) := by
  have hq := fun wx => Lib.run_eql_slice_nil (P := Try.prog) wx 22 44 a n c 0 0 Try.underlying22
  cases a with
  | none =>
    obtain rfl := h.nil rfl
    clear h
    go_enter Try.func6, Try.ntmps6
    go_wp2
    go_ret
    exact ⟨none, 0, rfl, Below.refl _ _, fun h => by omega⟩
  | some ad =>
    obtain ⟨M, hM, hmk⟩ := made50 n hn w
    obtain ⟨i44, z44, hi44, hz44, -, -, hs44⟩ := zero44
    obtain ⟨Z, hZ⟩ : ∃ Z, z44.cells = Z := ⟨_, rfl⟩
    rw [hZ] at hs44
    have HI := hide (And.intro hi44 (And.intro hz44 (And.intro hZ hs44)))
    clear hi44 hz44 hs44 hZ
    have HC := hide h
    have HT : Hid (TR w (w.alloc (.cells M 50)) n 0 (S 0)) := ⟨⟨M, heap_alloc_new w _, hM⟩, fun h => by omega, (Below.refl _ _).alloc (Nat.le_refl _) _⟩
    clear h
    go_enter Try.func6, Try.ntmps6
    go_wp2_with fail
    clear hmk
    go_loopw [4] (fun i wr => ∃ k : Nat, k ≤ n ∧ i = .int .i64 k ∧ Hid (TR w wr n k (S 0))) (fun i _ => n - (intOf i).toNat)
    case atStart => exact ⟨0, Nat.zero_le _, rfl, HT⟩
    case round =>
      obtain ⟨k, hk, rfl, HR⟩ := hrel
      by_cases hlt : k < n
      · have hl := (unhide HC).len k hlt
        have h1 := (unhide HC).one k hlt
        have HL := hide hl
        have HX := hide h1
        have HG := hide (((unhide HC).kept (unhide HR).bel (Nat.le_refl _)).rng k hlt)
        have HZ : Hid ((Try.prog.info? 44).map (·.size) = some (EC k).length) := by { rw [hl]; exact Try.size44 }
        have HZ' : Hid ((Try.prog.info? 44).map (·.size) = some (EC k).toArray.size) := by { rw [List.size_toArray, hl]; exact Try.size44 }
        have HSZ : Hid (Z.size = (EC k).toArray.size) := by { show Z.size = _; rw [(unhide HI).2.2.2]; simp [hl] }
        obtain ⟨r, hr⟩ := (unhide HC).rep k hlt
        have hs := (unhide HC).seq k hlt
        obtain ⟨ls, cs, ag, hg, -⟩ := (unhide HC).sig k hlt
        have x0 : (wr.alloc (.cells (EC k).toArray 44)).cell? ⟨wr.heap.size, 0, none⟩ = some (.int .u32 r) := by { rw [cell_of_row _ _ _ _ _ _ (heap_alloc_new wr _)]; simpa using hr }
        have x1 : (wr.alloc (.cells (EC k).toArray 44)).cell? ⟨wr.heap.size, 1, none⟩ = some (.int .u64 (S k)) := by { rw [cell_of_row _ _ _ _ _ _ (heap_alloc_new wr _)]; simpa using hs }
        have x130 : (wr.alloc (.cells (EC k).toArray 44)).cell? ⟨wr.heap.size, 130, none⟩ = some (.slice ag ls cs) := by { rw [cell_of_row _ _ _ _ _ _ (heap_alloc_new wr _)]; simpa using hg }
        obtain ⟨X, bX, sX, oX, zX⟩ := built48 (S k) (sub (EC k) 2) (sub (EC k) 34) (sub (EC k) 66) (sub (EC k) 98) (sub_len _ _ hl (by omega)) (sub_len _ _ hl (by omega)) (sub_len _ _ hl (by omega)) (sub_len _ _ hl (by omega)) (sub_one _ _ h1) (sub_one _ _ h1) (sub_one _ _ h1) (sub_one _ _ h1)
        obtain ⟨Y, bY, sY, oY, zY⟩ := built50 r (S k) X (.slice ag ls cs) rfl rfl sX oX zX
        have BX := hide bX
        have BY := hide bY
        have SY := hide sY
        have OY := hide oY
        have HY := hide zY
        obtain rfl : ad = ⟨b, off, none⟩ := by { have := (unhide HC).ad (by omega); simpa using this }
        clear hl h1 bX sX oX zX bY sY oY zY hr hs hg HT
        go_wp2_with (first | (refine wpList_load_mid rfl 44 (.tmp 19) rfl b (off + k * 131) (by rfl) (EC k) _ (unhide HG) Try.underlying44 rfl (unhide HZ) ?_) | (refine wpList_alloc_at rfl 44 rfl i44 z44 Z (unhide HI).2.2.1 (unhide HI).1 (unhide HI).2.1 ?_) | (refine wpList_store_new rfl 44 (.tmp 5) (.tmp 20) rfl wr Z (EC k).toArray (by rfl) _ rfl (by rfl) (by rfl) (unhide HZ') (unhide HSZ) (all_oneCell_toArray (unhide HX)) ?_) | (refine wpList_load_mid rfl 42 (.tmp 27) rfl wr.heap.size 2 (by rfl) (sub (EC k) 2) _ (sub_at wr (EC k) 2) Try.underlying42 rfl (by rw [sub_len _ _ (unhide HL) (by omega)]; exact Try.size42) ?_) | (refine wpList_load_mid rfl 42 (.tmp 29) rfl wr.heap.size 34 (by rfl) (sub (EC k) 34) _ (sub_at wr (EC k) 34) Try.underlying42 rfl (by rw [sub_len _ _ (unhide HL) (by omega)]; exact Try.size42) ?_) | (refine wpList_load_mid rfl 42 (.tmp 31) rfl wr.heap.size 66 (by rfl) (sub (EC k) 66) _ (sub_at wr (EC k) 66) Try.underlying42 rfl (by rw [sub_len _ _ (unhide HL) (by omega)]; exact Try.size42) ?_) | (refine wpList_load_mid rfl 42 (.tmp 33) rfl wr.heap.size 98 (by rfl) (sub (EC k) 98) _ (sub_at wr (EC k) 98) Try.underlying42 rfl (by rw [sub_len _ _ (unhide HL) (by omega)]; exact Try.size42) ?_) | (refine wpList_build_to rfl 48 _ rfl X (by simp only [List.map_toArray, List.map_cons, List.map_nil]; exact unhide BX) ?_) | (refine wpList_build_to rfl 50 _ rfl Y (by simp only [List.map_toArray, List.map_cons, List.map_nil]; exact unhide BY) ?_) | (refine wpList_store_mid rfl 50 (.tmp 39) (.tmp 38) rfl w.heap.size (k * 131) Y (by rfl) (by rfl) ((unhide HR).there hlt _ _ (unhide SY)) (by rw [unhide SY]; exact Try.size50) (unhide OY) ?_))
        go_roundw
        case rel => exact ⟨k + 1, by omega, by go_num, (unhide HR).next hlt _ Y (unhide SY) (fun h => by subst h; exact unhide HY)⟩
        case measure => simp [intOf]; omega
      · obtain rfl : k = n := by omega
        go_wp2_with fail
        go_ret
        refine ⟨_, _, rfl, (unhide HR).bel, fun h => ⟨_, rfl, ?_, (unhide HR).seq h⟩⟩
        obtain ⟨R, hR, -⟩ := (unhide HR).row
        exact lt_of_block hR
end Go.Proofs.Qxb6613727a
