import Derived.Test.YbulkgahmDoorBase
import Derived.Test.YbulkgahmDoorShelf
import Derived.Lib.Builder
import Derived.Lib.AppendStr
import Derived.Lib.UnsafeStr
import Derived.Lib.ItoaLen
import Derived.Laws.Externs
import Derived.Lib.Walk
namespace Go.Proofs.YbulkgahmDoor
open Go.RowKit Go.Zz

theorem Ybad.builderInfo : (Ybad.prog.info? 52).map (·.size) = some 2 := by kernel_rfl
theorem Ybad.builderLies : liesAt Ybad.prog Ybad.prog.depth 54 (3 / Ybad.prog.cellsOf 54) 0 52 1 = true := by kernel_rfl
theorem Ybad.byteInfo : (Ybad.prog.info? 5).map (fun i => (i.zero, i.size, i.bytes)) = some (some (.int .u8 0), 1, 1) := by kernel_rfl
theorem Ybad.cellsByte : Ybad.prog.cellsOf 5 = 1 := by kernel_rfl

/-- the text at block b of the call's own (from w0's heap on), its history pointer hp, holding the bytes l; all that w0 held is as it was -/
def Tx (w0 : World) (b : Nat) (hp : Value) (w : World) (l : List UInt8) : Prop :=
  Below w0.heap.size w0 w ∧ w0.heap.size ≤ b ∧ ∃ p v, (p = .pointer none ∨ p = .pointer (some ⟨b, 0, none⟩)) ∧ w.heap[b]? = some (.cells #[p, v, hp] 54 (0, 0)) ∧ w.ownsRow w0.heap.size 5 1 v l.length (Lib.byteCells l)

theorem lt_of_heap {w : World} {b : Nat} {o : Obj} (h : w.heap[b]? = some o) : b < w.heap.size := by
  rcases Nat.lt_or_ge b w.heap.size with hl | hl
  · exact hl
  · rw [Array.getElem?_eq_none hl] at h; cases h

theorem owns_grow {w w' : World} {B : Nat} {e : TypeId} {size : Nat} {v : Value} {n : Nat} {xs : List Value} (h : w.ownsRow B e size v n xs) (hb : Below w.heap.size w w') : w'.ownsRow B e size v n xs := by
  rcases h.2 with ⟨h1, h2⟩ | ⟨b, cap, cur, h1, h2, h3, h4⟩
  · exact ⟨h.1, .inl ⟨h1, h2⟩⟩
  · exact ⟨h.1, .inr ⟨b, cap, cur, h1, h2, (hb.block b (lt_of_heap h3)).trans h3, h4⟩⟩

theorem Tx.grow {w0 w w' : World} {b : Nat} {hp : Value} {l : List UInt8} (h : Tx w0 b hp w l) (hb : Below w.heap.size w w') : Tx w0 b hp w' l := by
  obtain ⟨h0, hB, p, v, hpp, hbk, hown⟩ := h
  refine ⟨h0.trans ⟨hb.os, hb.tape, hb.output, hb.size, fun k hk => hb.block k (Nat.lt_of_lt_of_le hk h0.size)⟩, hB, p, v, hpp, (hb.block b (lt_of_heap hbk)).trans hbk, owns_grow hown hb⟩

theorem Tx.cell {w0 w : World} {b : Nat} {hp : Value} {l : List UInt8} (h : Tx w0 b hp w l) {a : Addr} {x : Value} (hx : w0.cell? a = some x) : w.cell? a = some x :=
  (h.1.cell (World.block_lt_of_cell? w0 a hx)).trans hx

/-- all rows but those of bytes and of texts are kept -/
def Oth (w w' : World) : Prop := ∀ (k : Nat) (cs : Array Value) (T : TypeId) (fr : Nat × Nat), w.heap[k]? = some (Obj.cells cs T fr) → T ≠ 5 → T ≠ 54 → w'.heap[k]? = w.heap[k]?

theorem Oth.refl (w : World) : Oth w w := fun _ _ _ _ _ _ _ => rfl
theorem Oth.trans {w w' w'' : World} (h : Oth w w') (k : Oth w' w'') : Oth w w'' := fun i cs T fr hi h5 h54 => (k i cs T fr ((h i cs T fr hi h5 h54).trans hi) h5 h54).trans (h i cs T fr hi h5 h54)
theorem Oth.row {w w' : World} (h : Oth w w') {q : Nat} {t : TypeId} {n : Nat} {f : Nat → Value} (hr : w.rowIs q t n f) (h5 : t ≠ 5) (h54 : t ≠ 54) : w'.rowIs q t n f := by
  obtain ⟨c, hb, hn, hc⟩ := hr
  exact ⟨c, (h q c t _ hb h5 h54).trans hb, hn, hc⟩
theorem Oth.set {w w' : World} {b : Nat} {cs : Array Value} {fr : Nat × Nat} (h : Oth w w') (hb : w.heap[b]? = some (.cells cs 54 fr)) (i : Nat) (u : Value) : Oth w (w'.setCell ⟨b, i, none⟩ u) := by
  intro k ds T gr hk h5 h54
  refine (Deep.blk_setCell_other _ _ _ _ (fun e => ?_)).trans (h k ds T gr hk h5 h54)
  simp only at e
  subst e
  rw [hb] at hk
  simp only [Option.some.injEq, Obj.cells.injEq] at hk
  exact h54 hk.2.1.symm

theorem Oth.grown {w w' : World} {B : Nat} {v : Value} {n : Nat} {xs : List Value} (hown : w.ownsRow B 5 1 v n xs) (hg : w.grownBy w' v.ownBlock) : Oth w w' := by
  intro k cs T fr hk h5 _
  refine hg.block k (lt_of_heap hk) (fun e => ?_)
  exact Lib.ownBlock_ne hown hk h5 e.symm

theorem heap_set {w : World} {b : Nat} {cs : Array Value} {T : TypeId} (h : w.heap[b]? = some (.cells cs T (0, 0))) (i : Nat) (u : Value) : (w.setCell ⟨b, i, none⟩ u).heap[b]? = some (.cells (cs.setIfInBounds i u) T (0, 0)) := by
  simp [World.setCell, Array.getElem?_modify, h]

theorem owns_set {w : World} {B b : Nat} {v : Value} {n : Nat} {xs : List Value} {cs : Array Value} (hown : w.ownsRow B 5 1 v n xs) (h : w.heap[b]? = some (.cells cs 54 (0, 0))) (i : Nat) (u : Value) : (w.setCell ⟨b, i, none⟩ u).ownsRow B 5 1 v n xs := by
  have hne := Lib.ownBlock_ne hown h (by decide)
  rcases hown.2 with ⟨h1, h2⟩ | ⟨g, cap, cur, h1, h2, h3, h4⟩
  · exact ⟨hown.1, .inl ⟨h1, h2⟩⟩
  · refine ⟨hown.1, .inr ⟨g, cap, cur, h1, h2, (Deep.blk_setCell_other _ _ _ _ (fun e => hne ?_)).trans h3, h4⟩⟩
    rw [h1]
    exact congrArg some e

set_option maxHeartbeats 1000000 in
set_option maxRecDepth 100000 in
theorem copyCheck_any (w0 : World) (b : Nat) (hp : Value) (l : List UInt8) (w : World) (h : Tx w0 b hp w l) :
    Calls Ybad.prog 17 #[.pointer (some ⟨b, 0, none⟩)] w fun e w' => e = .returned (.tuple #[]) ∧ Below w0.heap.size w0 w' ∧ w0.heap.size ≤ b ∧ ∃ v, w'.heap[b]? = some (.cells #[.pointer (some ⟨b, 0, none⟩), v, hp] 54 (0, 0)) ∧ w'.ownsRow w0.heap.size 5 1 v l.length (Lib.byteCells l) ∧ Oth w w' := by
  obtain ⟨h0, hB, p, v, hpp, hbk, hown⟩ := h
  obtain ⟨j, hj, hjs⟩ := Option.map_eq_some_iff.1 Ybad.builderInfo
  have hc0 : w.cell? ⟨b, 0, none⟩ = some p := by rw [Lib.cell_of_heap hbk]; rfl
  have hf0 := Lib.frozen_of_heap hbk 0
  have hsh : w.shape? b = some (54, 3) := by simp [World.shape?, hbk]
  rcases hpp with rfl | rfl
  · go_enter Ybad.func17, Ybad.ntmps17
    go_wp2
    rw [Lib.run_to_unsafe w ⟨b, 0, none⟩ Ybad.underlying49 Ybad.underlying74 hj (by rw [hjs]; decide) hsh (Nat.zero_lt_succ 2)]
    simp only [Result.andThen]
    rw [Oper.upon_value]
    go_wp2
    rw [run_callFunc_extern Ybad.func24 (by kernel_rfl) (by kernel_rfl) (by kernel_rfl) (e := Extern.AbiNoEscape.same) (by kernel_rfl)]
    rw [Lib.run_noEscape]
    simp only [Result.andThen]
    rw [Oper.upon_value]
    go_wp2
    rw [Lib.run_from_unsafe w ⟨b, 0, none⟩ Ybad.underlying74 Ybad.underlying49 hj hsh Ybad.builderLies]
    simp only [Result.andThen]
    rw [Oper.upon_value]
    go_wp2
    go_end0
    exact ⟨rfl, h0.setCell (p := ⟨b, 0, none⟩) hB _, hB, v, heap_set hbk 0 _, owns_set hown hbk 0 _, (Oth.refl w).set hbk 0 _⟩
  · go_enter Ybad.func17, Ybad.ntmps17
    go_wp2
    rw [Lib.run_neq_ptr_same w _ Ybad.underlying49 hj]
    go_wp2
    go_end0
    exact ⟨rfl, h0, hB, v, hbk, hown, Oth.refl _⟩

/-- what WriteString may come to: 2^46 bytes are far more than any call here writes -/
def cap46 : Nat := 70368744177664

set_option maxHeartbeats 2000000 in
set_option maxRecDepth 100000 in
theorem write_any (w0 : World) (b : Nat) (hp : Value) (l s : List UInt8) (w : World) (h : Tx w0 b hp w l) (hlen : l.length + s.length ≤ cap46) :
    Calls Ybad.prog 8 #[.pointer (some ⟨b, 0, none⟩), .string ⟨s.toArray⟩] w fun e w' => (∃ n, e = .returned (.tuple #[.int .i64 n, .nilIface])) ∧ Tx w0 b hp w' (l ++ s) ∧ Oth w w' := by
  unfold cap46 at hlen
  obtain ⟨i0, hi, hzz⟩ := Option.map_eq_some_iff.1 Ybad.byteInfo
  simp only [Prod.mk.injEq] at hzz
  obtain ⟨hz0, hz1, hz2⟩ := hzz
  have hcc := hid (copyCheck_any w0 b hp l w h)
  clear h
  go_enter Ybad.func8, Ybad.ntmps8
  go_wp2_with (go_at_call 17; refine hcc.out.mono ?_)
  rintro e w1 ⟨rfl, hb1, hB, v, hbk, hown, ho1⟩
  have HO := hid ho1
  clear ho1
  have c0 : w1.cell? ⟨b, 0, none⟩ = some (.pointer (some ⟨b, 0, none⟩)) := by rw [Lib.cell_of_heap hbk]; rfl
  have c1 : w1.cell? ⟨b, 1, none⟩ = some v := by rw [Lib.cell_of_heap hbk]; rfl
  have hsz : (⟨s.toArray⟩ : ByteArray).size = s.length := by simp [ByteArray.size]
  go_wp2_with (at_builtin; refine Lib.wpList_append_own_string _ rfl _ _ 50 9 rfl w0.heap.size 5 i0 Ybad.underlying50 Ybad.underlying9 hi hz0 hz1 hz2 _ _ _ rfl hown ⟨s.toArray⟩ rfl ?c3 ?c4 ?c5 ?_)
  case c3 => unfold maxLen; rw [hsz]; omega
  case c4 => rw [hsz]; omega
  case c5 => exact hb1.size
  intro v' w2 hown' hgrow _
  have hlt := lt_of_heap hbk
  have hne := Lib.ownBlock_ne hown hbk (by decide)
  have hb2 : w2.heap[b]? = some (.cells #[.pointer (some ⟨b, 0, none⟩), v, hp] 54 (0, 0)) := by
    rw [hgrow.block b hlt (fun e => hne e.symm)]
    exact hbk
  have d0 : w2.cell? ⟨b, 0, none⟩ = some (.pointer (some ⟨b, 0, none⟩)) := by rw [Lib.cell_of_heap hb2]; rfl
  have d1 : w2.cell? ⟨b, 1, none⟩ = some v := by rw [Lib.cell_of_heap hb2]; rfl
  have f1 : w2.frozen? ⟨b, 1, none⟩ = false := Lib.frozen_of_heap hb2 1
  obtain ⟨ao, n', cap, rfl⟩ : ∃ ao n' cap, v' = .slice ao n' cap := by
    rcases hown'.2 with ⟨hv, _⟩ | ⟨g, cap, cur, hv, _⟩
    · exact ⟨_, _, _, hv⟩
    · exact ⟨_, _, _, hv⟩
  go_wp2
  go_ret2
  refine ⟨⟨_, rfl⟩, ?_⟩
  have hown2 : w2.ownsRow w0.heap.size 5 1 (.slice ao n' cap) (l ++ s).length (Lib.byteCells (l ++ s)) := by
    rw [Lib.byteCells_append, List.length_append]
    have := hown'
    rw [Lib.strCells_eq] at this
    exact this
  refine ⟨?_, (HO.out.trans (Oth.grown hown hgrow)).trans ((Oth.refl w2).set hb2 1 _)⟩
  exact ⟨((hb1.grown hgrow hb1.size (fun k hk => (hown.lt k hk).1))).setCell (p := ⟨b, 1, none⟩) hB _, hB, .pointer (some ⟨b, 0, none⟩), .slice ao n' cap, .inr rfl, heap_set hb2 1 _, owns_set hown2 hb2 1 _⟩

set_option maxHeartbeats 1000000 in
set_option maxRecDepth 100000 in
theorem string_any (w0 : World) (b : Nat) (hp : Value) (l : List UInt8) (w : World) (h : Tx w0 b hp w l) (h0 : l ≠ []) :
    Calls Ybad.prog 10 #[.pointer (some ⟨b, 0, none⟩)] w fun e w' => e = .returned (.string ⟨l.toArray⟩) ∧ Below w0.heap.size w0 w' := by
  obtain ⟨hb0, hB, p, v, hpp, hbk, hown⟩ := h
  have hl0 : l.length ≠ 0 := by simpa using h0
  obtain ⟨g, cap, cur, rfl, hbg, hg, hnc, hcm, hcs, htake⟩ : ∃ g cap cur, v = .slice (some ⟨g, 0, none⟩) l.length cap ∧ w0.heap.size ≤ g ∧ w.heap[g]? = some (.cells cur 5 (0, 0)) ∧ l.length ≤ cap ∧ cap ≤ maxLen ∧ cur.size = cap * 1 ∧ cur.toList.take (l.length * 1) = Lib.byteCells l := by
    rcases hown.2 with ⟨_, hz⟩ | ⟨g, cap, cur, hv, r⟩
    · exact absurd hz hl0
    · exact ⟨g, cap, cur, hv, r⟩
  have c1 : w.drew.cell? ⟨b, 1, none⟩ = some (.slice (some ⟨g, 0, none⟩) l.length cap) := by
    have : w.drew.heap[b]? = some (.cells #[p, .slice (some ⟨g, 0, none⟩) l.length cap, hp] 54 (0, 0)) := hbk
    rw [Lib.cell_of_heap this]; rfl
  have hSD : (Builtin.unsafeSliceData_ #[50] 73 #[.slice (some ⟨g, 0, none⟩) l.length cap]).run Ybad.prog w.drew = .ok (.pointer (some ⟨g, 0, none⟩)) w.drew :=
    Lib.run_unsafeSliceData_row _ _ _ _ _ _ (by omega)
  have hUS : (Builtin.unsafeString_ #[73, 3] 9 #[.pointer (some ⟨g, 0, none⟩), .int .i64 l.length]).run Ybad.prog w.drew = .ok (.string ⟨l.toArray⟩) (w.drew.freeze ⟨g, 0, none⟩ l.length) := by
    refine Lib.run_unsafeString_row w.drew 73 3 9 5 Ybad.underlying73 Ybad.cellsByte g cur.size (by have hg' : w.drew.heap[g]? = some (.cells cur 5 (0, 0)) := hg; simp [World.shape?, hg']) l h0 (by omega) (by unfold maxLen at hcm; omega) ?_
    intro j x hx
    have := hown.cells (g := g) rfl j (.int .u8 x.toNat) (by simp [Lib.byteCells, hx])
    exact this
  go_enter Ybad.func10, Ybad.ntmps10
  go_wp2
  go_region
  all_goals (go_wp2; go_ret; exact ⟨rfl, Lib.below_freeze (Below.drew hb0) (p := ⟨g, 0, none⟩) hbg _⟩)

end Go.Proofs.YbulkgahmDoor
