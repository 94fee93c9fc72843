import Derived.Test.YbulkgbaiDoorSend
import Derived.Laws.IdiomRangeMap
namespace Go.Proofs.YbulkgbaiDoor
open Go.RowKit Go.Zz Go.Maps

theorem next_empty (w : World) (ty : TypeId) (bm : Nat) (hb : w.heap[bm]? = some (.map #[] 0)) :
    (Instr.next (.pointer (some ⟨w.heap.size, 0, none⟩)) false ty).run Ybad.prog (w.alloc (.mapIter (some bm) 0 #[] 0)) = .ok (.tuple #[.bool false]) (w.alloc (.mapIter (some bm) 0 #[] 0)) := by
  rcases run_next_map (P := Ybad.prog) w ty bm 0 0 #[] #[] 0 hb (fun x hx => by simp at hx) (Nat.le_refl _) with ⟨_, h⟩ | ⟨e, he, _⟩
  · exact h
  · simp [leftOf] at he

set_option maxRecDepth 100000 in
/-- (*Engine).record, no handshake under way -/
theorem record_any (eb : Nat) (e : EV) (w : World) (self life seq L c : Nat) (at0 : Option Addr) (hE : E w eb e) (hop : w.heap[e.op]? = some (.map #[] 0)) (hac : w.heap[e.ac]? = some (.map #[] 0)) :
    Calls Ybad.prog 19 #[.pointer (some ⟨eb, 0, none⟩), mv self life seq (.slice at0 L c)] w fun x w' => x = .returned (.tuple #[]) ∧ Below w.heap.size w w' := by
  unfold mv
  have HE := hid hE
  have HOP := hid hop
  have HAC := hid hac
  clear hE hop hac
  go_enter Ybad.func19, Ybad.ntmps19
  go_upto_region 1 with fail
  refine wp_gen (fun w0 hw0 => ?_)
  have hb0 : Below w.heap.size w w0 := by rw [hw0]; exact (Below.refl _ _).alloc (Nat.le_refl _) _
  have hE0 : E w0 eb e := by rw [hw0]; exact World.rowIs.alloc HE.out _
  clear hw0
  have hop0 : w0.heap[e.op]? = some (.map #[] 0) := by rw [hb0.block _ (Array.getElem?_eq_some_iff.1 HOP.out).1]; exact HOP.out
  have c10 : w0.cell? ⟨eb, 10, none⟩ = some (.map (some e.op)) := World.rowIs.cell hE0 (by omega)
  have e1 := run_range_map (P := Ybad.prog) w0 54 _ _ e.op #[] 0 Ybad.underlying54 hop0
  have e2 := fun ty => next_empty w0 ty e.op hop0
  have HE0 := hid hE0
  have HB0 := hid hb0
  clear hE0 hb0 hop0
  go_upto_block 0 with fail
  go_cut [5] from 13 to 37 (fun _ wx => w0.alloc (.mapIter (some e.op) 0 #[] 0) = wx)
  case first =>
    go_wp2_with fail
    go_loopw [5] (fun _ wr => w0.alloc (.mapIter (some e.op) 0 #[] 0) = wr) (fun _ _ => 0)
    case atStart => rfl
    case round =>
      obtain rfl := hrel
      go_wp2
      go_meet
      rfl
  case rest =>
    obtain rfl := hcut
    clear e1 e2
    go_upto_region 7 with fail
    refine wp_gen (fun w1 hw1 => ?_)
    have hb1 : Below w.heap.size w w1 := by rw [hw1]; exact HB0.out.alloc HB0.out.size _
    have hE1 : E w1 eb e := by rw [hw1]; exact World.rowIs.alloc HE0.out _
    clear hw1
    have hac1 : w1.heap[e.ac]? = some (.map #[] 0) := by rw [hb1.block _ (Array.getElem?_eq_some_iff.1 HAC.out).1]; exact HAC.out
    have c11 : w1.cell? ⟨eb, 11, none⟩ = some (.map (some e.ac)) := World.rowIs.cell hE1 (by omega)
    have e1 := run_range_map (P := Ybad.prog) w1 55 _ _ e.ac #[] 0 Ybad.underlying55 hac1
    have e2 := fun ty => next_empty w1 ty e.ac hac1
    have HB1 := hid hb1
    clear hE1 hb1 hac1 c10
    go_upto_block 2 with fail
    go_wp2_with fail
    go_loopw [7] (fun _ wr => w1.alloc (.mapIter (some e.ac) 0 #[] 0) = wr) (fun _ _ => 0)
    case atStart => rfl
    case round =>
      obtain rfl := hrel
      go_wp2
      go_end0
      exact ⟨rfl, HB1.out.alloc HB1.out.size _⟩
end Go.Proofs.YbulkgbaiDoor
