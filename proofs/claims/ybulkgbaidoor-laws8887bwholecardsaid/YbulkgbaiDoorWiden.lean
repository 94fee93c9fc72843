import Derived.Test.YbulkgbaiDoorEng
import Derived.BigRegion
import Derived.LoopN
import Derived.Deep.CutRange
import Derived.Deep.DeepCutAuto
import Derived.Deep.CutBlock
namespace Go.Proofs.YbulkgbaiDoor
open Go.RowKit Go.Zz Go.Maps

theorem make49_0 (w : World) : (Instr.makeSlice 49 (.int .i64 0) (.int .i64 0)).run Ybad.prog w = .ok (.slice (some ⟨w.heap.size, 0, none⟩) 0 0) (w.alloc (.cells (madeCells #[.int .u64 0] 0) 33)) := by
  have := run_make_any Ybad.prog 49 33 (.int .u64 0) #[.int .u64 0] 1 8 Ybad.underlying49 (by kernel_rfl) rfl 0 (by omega) (by omega) w
  simpa using this

theorem info33 : (Ybad.prog.info? 33).map (fun i => (i.zero, i.size, i.bytes)) = some (some (.int .u64 0), 1, 8) := by kernel_rfl

theorem wp_gen {P : Program} {c : Code} {Q : Exit → Act → World → Prop} {a : Act} {w : World} (h : ∀ w', w' = w → Code.wp P c Q a w') : Code.wp P c Q a w := h w rfl

/-- a row of another type is another block -/
theorem vec_ne {w : World} {B : Nat} {e T : TypeId} {size : Nat} {v : Value} {n : Nat} {f g : Nat → Value} {b m : Nat} (hv : Vec w B e size v n f) (hr : w.rowIs b T m g) (hTe : T ≠ e) : v.ownBlock ≠ some b := by
  rcases hv.2 with ⟨h1, _⟩ | ⟨c, cap, cur, h1, h2, h3, _⟩
  · rw [h1]; simp [Value.ownBlock]
  · intro hb
    rw [h1] at hb
    simp only [Value.ownBlock, Option.some.injEq] at hb
    subst hb
    obtain ⟨cs, hc, _⟩ := hr
    rw [h3] at hc
    simp only [Option.some.injEq, Obj.cells.injEq] at hc
    exact hTe hc.2.1.symm

theorem vec_set {w : World} {B : Nat} {e : TypeId} {size : Nat} {v : Value} {n : Nat} {f : Nat → Value} (h : Vec w B e size v n f) {a : Addr} (hne : v.ownBlock ≠ some a.block) (u : Value) : Vec (w.setCell a u) B e size v n f := by
  rcases h.shape with ⟨rfl, rfl⟩ | ⟨c, cap, rfl, _⟩
  · exact Vec.nil _ _ _ _ _
  · exact h.setOther (fun e => hne (by rw [← e]; rfl)) _

attribute [-go_sem] Builtin.append_

set_option maxRecDepth 100000 in
/-- (*copies).widen, no row yet -/
theorem widen_any (eb B W : Nat) (e : EV) (w : World) (ba : Option Addr) (bc : Nat) (f f' : Nat → Value) (hE : E w eb e) (hB : B ≤ eb) (hbits : e.bits = .slice ba 0 bc) (hW : e.words = W) (hW0 : 0 < W) (hW1 : W ≤ 16)
    (hS : Vec w B 33 1 e.slots W f) (hf : ∀ i, i < W → f' i = f i) (hf' : f' W = .int .u64 0) :
    Calls Ybad.prog 15 #[.pointer (some ⟨eb, 5, none⟩)] w fun x w' => x = .returned (.tuple #[]) ∧
      ∃ bits' slots', E w' eb { e with bits := bits', words := W + 1, slots := slots' } ∧ Vec w' B 33 1 bits' 0 f ∧ Vec w' B 33 1 slots' (W + 1) f' ∧ (∀ b, slots'.ownBlock = some b → bits'.ownBlock ≠ some b) ∧
        (∀ b, slots'.ownBlock = some b → e.slots.ownBlock = some b ∨ w.heap.size ≤ b) ∧ Kept (eb :: e.slots.ownBlock.toList) w w' := by
  have c6 := hE.c6
  have c8 := hE.c8
  have c9 := hE.c9
  rw [hbits] at c6
  rw [hW] at c8
  have hmk := make49_0
  have hlt : eb < w.heap.size := World.rowIs.lt hE
  have f6 := hE.fz 6
  have f8 := hE.fz 8
  have q0 : IntKind.i64.wrap ((W : Int) + 1) = (W : Int) + 1 := by rw [IntKind.wrap_i64]; omega
  have HE := hid hE
  have HS := hid hS
  have HW := hid hW
  clear hE hS hW
  go_enter Ybad.func15, Ybad.ntmps15
  go_upto_region 1 with fail
  go_cut [3] from 10 to 22 (fun v wx => v = .slice (some ⟨w.heap.size, 0, none⟩) 0 0 ∧ Kept [] w wx ∧ wx.rowIs w.heap.size 33 0 f)
  case first =>
    go_wp2
    go_region
    go_wp2
    go_meet
    exact ⟨rfl, ((Kept.refl _ w).alloc _).drew, _, Deep.blk_alloc_new _ _, by simp [madeCells], fun i hi => by omega⟩
  case rest =>
    obtain ⟨w1, hw1⟩ : ∃ w1, w1 = wc := ⟨_, rfl⟩
    subst hw1
    obtain ⟨rfl, hk1, hr1⟩ := hcut
    have hE1 : E w1 eb e := hk1.row HE.out (by simp)
    have hS1 : Vec w1 B 33 1 e.slots W f := hk1.vec HS.out (by simp)
    have hne : e.slots.ownBlock ≠ some eb := vec_ne HS.out HE.out (by decide)
    have c6 : w1.cell? ⟨eb, 6, none⟩ = some (.slice ba 0 bc) := by rw [hE1.c6, hbits]
    have c8 : w1.cell? ⟨eb, 8, none⟩ = some (.int .i64 (W : Int)) := by rw [hE1.c8, HW.out]
    have hlt1 : eb < w1.heap.size := World.rowIs.lt hE1
    have HE1 := hid hE1
    have HS1 := hid hS1
    have HR1 := hid hr1
    have HK1 := hid hk1
    clear hE1 hS1 hr1 hk1
    go_wp2
    go_quiet (fail)
    go_upto_block 0 with fail
    go_cut [4, 33] from 33 to 45 (fun _ _ wx => ∃ q, w1.drewN q = wx)
    case first =>
      go_wp2_with fail
      go_loopw [33, 4] (fun i _ wr => i = .int .i64 0 ∧ ∃ q, w1.drewN q = wr) (fun _ _ _ => 0)
      case atStart => exact ⟨rfl, _, rfl⟩
      case round =>
        obtain ⟨rfl, q, rfl⟩ := hrel
        go_wp2
        go_meet
        exact ⟨_, rfl⟩
    case rest =>
      obtain ⟨q, rfl⟩ := hcut
      have f6 : (w1.drewN q).frozen? ⟨eb, 6, none⟩ = false := E.fz (w := w1) HE1.out 6
      have f8 : (w1.drewN q).frozen? ⟨eb, 8, none⟩ = false := E.fz (w := w1) HE1.out 8
      go_upto_region 8 with fail
      refine wp_gen (fun w2 hw2 => ?_)
      have hE2 : E w2 eb { e with bits := .slice (some ⟨w.heap.size, 0, none⟩) 0 0, words := W + 1 } := by
        rw [hw2]
        exact E.words (E.bits (w := w1.drewN q) HE1.out _) (W + 1)
      have hS2 : Vec w2 B 33 1 e.slots W f := by
        rw [hw2]
        exact vec_set (vec_set (w := w1.drewN q) HS1.out hne _) hne _
      have hr2 : w2.rowIs w.heap.size 33 0 f := by
        rw [hw2]
        exact World.rowIs.setOther (World.rowIs.setOther (w := w1.drewN q) HR1.out (by show w.heap.size ≠ eb; omega) _) (by show w.heap.size ≠ eb; omega) _
      have hk2 : Kept (eb :: e.slots.ownBlock.toList) w w2 := by
        rw [hw2]
        exact (((HK1.out.mono (by simp)).drewN q).setCell (.inl (by simp)) _).setCell (.inl (by simp)) _
      clear hw2 f6 f8 c6 c8
      obtain ⟨b3, cap3, w3, hap, hV3, hgr3, hat3, hBb⟩ := run_append_vec Ybad.prog (w2.alloc (.cells #[.int .u64 0] 33)) B 49 49 33 _ 1 8 Ybad.underlying49 info33 rfl (by decide) e.slots W f (hS2.alloc _) ⟨w2.heap.size, 0, none⟩ 1 1 (by decide) (fun _ => .int .u64 0) f'
        (fun j hj => by (obtain rfl : j = 0 := by omega); rw [add_zero_plain]; simp) (fun _ _ => rfl) (fun j hj => hf j (by omega)) (fun j hj => by (obtain rfl : j = 0 := by omega); simpa using hf') (by unfold maxLen; omega) (by omega) (by rw [Deep.nblk_alloc]; have := hk2.size; omega)
      have hE3 : E w3 eb { e with bits := .slice (some ⟨w.heap.size, 0, none⟩) 0 0, words := W + 1 } := rowIs_grown (World.rowIs.alloc hE2 _) hgr3 (fun h => hne h.symm)
      have hneb : e.slots.ownBlock ≠ some w.heap.size := fun h => by have := (World.ownsRow.lt HS.out _ h).2; omega
      have hr3 : w3.rowIs w.heap.size 33 0 f := rowIs_grown (World.rowIs.alloc hr2 _) hgr3 (fun h => hneb h.symm)
      have hk3 : Kept (eb :: e.slots.ownBlock.toList) w w3 := (hk2.alloc _).grown hgr3 (fun k hk => .inl (by simp [hk]))
      have hb4 : e.slots.ownBlock = some b3 ∨ w.heap.size ≤ b3 := hat3.imp id (fun h => by rw [Deep.nblk_alloc] at h; have := hr2.lt; omega)
      have hb3 : b3 ≠ w.heap.size ∧ b3 ≠ eb := by
        have h1 := hr2.lt
        have h2 := World.rowIs.lt hE2
        rcases hat3 with h | h
        · exact ⟨fun e => hneb (by rw [h, e]), fun e => hne (by rw [h, e])⟩
        · rw [Deep.nblk_alloc] at h
          exact ⟨by omega, by omega⟩
      have d9 : w2.cell? ⟨eb, 9, none⟩ = some e.slots := hE2.c9
      have g9 := hE3.fz 9
      have e9 := hE3.c9
      have hlt2 : eb < w2.heap.size := World.rowIs.lt hE2
      have HAP := hid hap
      have HE3 := hid hE3
      have HV3 := hid hV3
      have HR3 := hid hr3
      have HK3 := hid hk3
      clear hap hE3 hV3 hr3 hk3 hE2 hS2 hr2 hk2 hgr3
      go_wp2_with (at_builtin; refine wpList_append_run rfl (.tmp 58) (.tmp 59) 49 49 rfl rfl rfl rfl HAP.out ?_)
      go_end0
      refine ⟨rfl, _, _, E.slots HE3.out _, Vec.of_row (HR3.out.setOther (by show w.heap.size ≠ eb; omega) _) (by omega) (by unfold maxLen; omega), vec_set HV3.out (fun h => hb3.2 (by simpa [Value.ownBlock] using h)) _, fun b h1 h2 => ?_, fun b h => by simp only [Value.ownBlock, Option.some.injEq] at h; exact h ▸ hb4, HK3.out.setCell (.inl (by simp)) _⟩
      simp only [Value.ownBlock, Option.some.injEq] at h1 h2
      exact hb3.1 (by omega)
end Go.Proofs.YbulkgbaiDoor
