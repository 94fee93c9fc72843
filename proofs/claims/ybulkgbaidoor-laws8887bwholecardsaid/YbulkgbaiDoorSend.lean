import Derived.Test.YbulkgbaiDoorSmall
namespace Go.Proofs.YbulkgbaiDoor
open Go.RowKit Go.Zz Go.Maps

theorem info39 : (Ybad.prog.info? 39).map (fun i => (i.zero, i.size, i.bytes)) = some (some (.agg #[.int .i64 0, .int .u32 0, .int .u32 0, .int .u32 0, .int .u64 0, .slice none 0 0]), 6, 56) := by kernel_rfl

/-- one event's cells -/
def evF (kind dst self life seq : Nat) (p : Value) : Nat → Value
  | 0 => .int .i64 (kind : Int)
  | 1 => .int .u32 (dst : Int)
  | 2 => .int .u32 (self : Int)
  | 3 => .int .u32 (life : Int)
  | 4 => .int .u64 (seq : Int)
  | _ => p

/-- the log with one event more -/
def logA (n : Nat) (lf : Nat → Value) (ev : Nat → Value) : Nat → Value := fun q => if q < n * 6 then lf q else ev (q - n * 6)

theorem logA_old {n : Nat} {lf ev : Nat → Value} (q : Nat) (h : q < n * 6) : logA n lf ev q = lf q := if_pos h
theorem logA_new {n : Nat} {lf ev : Nat → Value} (q : Nat) : logA n lf ev (n * 6 + q) = ev q := by
  unfold logA
  rw [if_neg (by omega), Nat.add_sub_cancel_left]

theorem log_app (w : World) (ob B n lc kind dst self life seq L c : Nat) (la at0 : Option Addr) (lf : Nat → Value) (hO : w.rowIs ob 30 1 (fun _ => .slice la n lc)) (hL : Vec w B 39 6 (.slice la n lc) n lf) (hn : n ≤ 100000) (hB : B ≤ w.heap.size) :
    ∃ b3 cap3 w3, (Builtin.append_ #[28, 28] 28 #[.slice la n lc, .slice (some ⟨w.heap.size, 0, none⟩) 1 1]).run Ybad.prog ((w.alloc (.cells #[.int .i64 (kind : Int), .int .u32 (dst : Int), .int .u32 (self : Int), .int .u32 (life : Int), .int .u64 (seq : Int), .slice at0 L c] 39)).drew) = .ok (.slice (some ⟨b3, 0, none⟩) (n + 1) cap3) w3 ∧
      w3.rowIs ob 30 1 (fun _ => .slice la n lc) ∧ Vec w3 B 39 6 (.slice (some ⟨b3, 0, none⟩) (n + 1) cap3) (n + 1) (logA n lf (evF kind dst self life seq (.slice at0 L c))) ∧ b3 ≠ ob ∧
      ((Value.slice la n lc).ownBlock = some b3 ∨ w.heap.size ≤ b3) ∧ Kept (ob :: (Value.slice la n lc).ownBlock.toList) w w3 := by
  have hne : (Value.slice la n lc).ownBlock ≠ some ob := vec_ne hL hO (by decide)
  obtain ⟨b3, cap3, w3, hap, hV3, hgr3, hat3, _⟩ := run_append_vec Ybad.prog ((w.alloc (.cells #[.int .i64 (kind : Int), .int .u32 (dst : Int), .int .u32 (self : Int), .int .u32 (life : Int), .int .u64 (seq : Int), .slice at0 L c] 39)).drew) B 28 28 39 _ 6 56 Ybad.underlying28 info39 rfl (by decide) _ n lf (hL.alloc _) ⟨w.heap.size, 0, none⟩ 1 1 (by decide) (evF kind dst self life seq (.slice at0 L c)) (logA n lf (evF kind dst self life seq (.slice at0 L c)))
    (fun j hj => by
      rw [add_zero_plain]
      rcases j with _ | _ | _ | _ | _ | _ | j <;> first | (simp [evF]; done) | omega)
    (fun j hj => by rcases j with _ | _ | _ | _ | _ | _ | j <;> first | rfl | omega) (fun j hj => logA_old j hj) (fun j hj => logA_new j) (by unfold maxLen; omega) (by omega) (by show B ≤ (w.alloc _).heap.size; rw [Deep.nblk_alloc]; omega)
  refine ⟨b3, cap3, w3, hap, rowIs_grown (w := (w.alloc _).drew) (World.rowIs.alloc hO _) hgr3 (fun h => hne h.symm), hV3, ?_, hat3.imp id (fun h => ?_), (((Kept.refl _ w).alloc _).drew).grown hgr3 (fun k hk => .inl (by simp [hk]))⟩
  · rcases hat3 with h | h
    · exact fun e => hne (by rw [h, e])
    · have h2 : b3 = (w.alloc (.cells #[.int .i64 (kind : Int), .int .u32 (dst : Int), .int .u32 (self : Int), .int .u32 (life : Int), .int .u64 (seq : Int), .slice at0 L c] 39)).heap.size := h
      rw [Deep.nblk_alloc] at h2
      have := hO.lt
      omega
  · have h2 : b3 = (w.alloc (.cells #[.int .i64 (kind : Int), .int .u32 (dst : Int), .int .u32 (self : Int), .int .u32 (life : Int), .int .u64 (seq : Int), .slice at0 L c] 39)).heap.size := h
    rw [Deep.nblk_alloc] at h2
    omega

attribute [-go_sem] Builtin.append_

theorem assert35 (w : World) (v : Value) : (Instr.typeAssert (.iface 35 v) 74 35 true).run Ybad.prog w = .ok (.tuple #[v, .bool true]) w := by kernel_rfl

/-- what a call of the output leaves -/
def Logged (w w' : World) (ob B n : Nat) (logv : Value) (lf' : Nat → Value) : Prop :=
  ∃ logv', w'.rowIs ob 30 1 (fun _ => logv') ∧ Vec w' B 39 6 logv' (n + 1) lf' ∧ (∀ b, logv'.ownBlock = some b → logv.ownBlock = some b ∨ w.heap.size ≤ b) ∧ Kept (ob :: logv.ownBlock.toList) w w'

set_option maxRecDepth 100000 in
theorem deliver_any (ob B n self life seq : Nat) (at0 : Option Addr) (L c : Nat) (logv : Value) (lf : Nat → Value) (w : World) (hO : w.rowIs ob 30 1 (fun _ => logv)) (hL : Vec w B 39 6 logv n lf) (hn : n ≤ 100000) (hB : B ≤ w.heap.size) :
    Calls Ybad.prog 41 #[.pointer (some ⟨ob, 0, none⟩), mv self life seq (.slice at0 L c)] w fun x w' => x = .returned (.tuple #[]) ∧ Logged w w' ob B n logv (logA n lf (evF 1 0 self life seq (.slice at0 L c))) := by
  unfold mv
  have hlt : ob < w.heap.size := hO.lt
  have hlv : ∃ la lc, logv = .slice la n lc := by
    rcases hL.shape with ⟨h, h0⟩ | ⟨b, c, h, _⟩
    · exact ⟨_, _, by rw [h, h0]⟩
    · exact ⟨_, _, h⟩
  obtain ⟨la, lc, rfl⟩ := hlv
  have HO := hid hO
  have HL := hid hL
  clear hO hL
  go_enter Ybad.func41, Ybad.ntmps41
  go_wp2
  refine wp_gen (fun w1 hw1 => ?_)
  have hO1 : w1.rowIs ob 30 1 (fun _ => .slice la n lc) := by rw [hw1]; exact HO.out.alloc _
  have hL1 : Vec w1 B 39 6 (.slice la n lc) n lf := by rw [hw1]; exact HL.out.alloc _
  have hm : w1.rowIs w.heap.size 35 4 (fun i => evF 1 0 self life seq (.slice at0 L c) (i + 2)) := by
    rw [hw1]
    exact ⟨_, Deep.blk_alloc_new _ _, rfl, fun i hi => by rcases i with _ | _ | _ | _ | i <;> first | rfl | omega⟩
  have hk1 : Kept (ob :: (Value.slice la n lc).ownBlock.toList) w w1 := by rw [hw1]; exact (Kept.refl _ w).alloc _
  clear hw1
  have m0 : w1.cell? ⟨w.heap.size, 0, none⟩ = some (.int .u32 (self : Int)) := hm.cell (i := 0) (by omega)
  have m1 : w1.cell? ⟨w.heap.size, 1, none⟩ = some (.int .u32 (life : Int)) := hm.cell (i := 1) (by omega)
  have m2 : w1.cell? ⟨w.heap.size, 2, none⟩ = some (.int .u64 (seq : Int)) := hm.cell (i := 2) (by omega)
  have m3 : w1.cell? ⟨w.heap.size, 3, none⟩ = some (.slice at0 L c) := hm.cell (i := 3) (by omega)
  have c0 : w1.cell? ⟨ob, 0, none⟩ = some (.slice la n lc) := hO1.cell (by omega)
  obtain ⟨b3, cap3, w3, hap, hO3, hL3, hb3, hat3, hk3⟩ := log_app w1 ob B n lc 1 0 self life seq L c la at0 lf hO1 hL1 hn (by have := hk1.size; omega)
  rw [show ((1 : Nat) : Int) = 1 from rfl, show ((0 : Nat) : Int) = 0 from rfl] at hap
  have f3 := hO3.frozen 0
  have c3 : w3.cell? ⟨ob, 0, none⟩ = some (.slice la n lc) := hO3.cell (by omega)
  have hlt1 : ob < w1.heap.size := hO1.lt
  have hltm : w.heap.size < w1.heap.size := hm.lt
  have HO3 := hid hO3
  have HL3 := hid hL3
  have HK3 := hid (hk1.trans hk3)
  have HAT := hid hat3
  have HK1 := hid hk1
  clear hO1 hL1 hm hO3 hL3 hk3 hat3 hk1
  go_big_region
  go_wp2
  go_end0
  refine ⟨rfl, _, (HO3.out.set 0 _).congr (fun i hi => by (obtain rfl : i = 0 := by omega); rfl), vec_set HL3.out (fun h => hb3 (by simpa [Value.ownBlock] using h)) _, fun b hb => ?_, HK3.out.setCell (.inl (by simp)) _⟩
  simp only [Value.ownBlock, Option.some.injEq] at hb
  rw [← hb]
  exact HAT.out.imp id (fun h => by omega)
set_option maxRecDepth 100000 in
theorem send_any (ob B n dst self life seq : Nat) (at0 : Option Addr) (L c : Nat) (logv : Value) (lf : Nat → Value) (w : World) (hO : w.rowIs ob 30 1 (fun _ => logv)) (hL : Vec w B 39 6 logv n lf) (hn : n ≤ 100000) (hB : B ≤ w.heap.size) :
    Calls Ybad.prog 42 #[.pointer (some ⟨ob, 0, none⟩), .int .u32 (dst : Int), .iface 35 (mv self life seq (.slice at0 L c))] w fun x w' => x = .returned (.tuple #[]) ∧ Logged w w' ob B n logv (logA n lf (evF 0 dst self life seq (.slice at0 L c))) := by
  unfold mv
  have hlt : ob < w.heap.size := hO.lt
  have hlv : ∃ la lc, logv = .slice la n lc := by
    rcases hL.shape with ⟨h, h0⟩ | ⟨b, c, h, _⟩
    · exact ⟨_, _, by rw [h, h0]⟩
    · exact ⟨_, _, h⟩
  obtain ⟨la, lc, rfl⟩ := hlv
  have HO := hid hO
  have HL := hid hL
  clear hO hL
  have hta := assert35
  go_enter Ybad.func42, Ybad.ntmps42
  go_wp2
  refine wp_gen (fun w1 hw1 => ?_)
  have hO1 : w1.rowIs ob 30 1 (fun _ => .slice la n lc) := by rw [hw1]; exact HO.out.alloc _
  have hL1 : Vec w1 B 39 6 (.slice la n lc) n lf := by rw [hw1]; exact HL.out.alloc _
  have hm : w1.rowIs w.heap.size 35 4 (fun i => evF 0 dst self life seq (.slice at0 L c) (i + 2)) := by
    rw [hw1]
    exact ⟨_, Deep.blk_alloc_new _ _, rfl, fun i hi => by rcases i with _ | _ | _ | _ | i <;> first | rfl | omega⟩
  have hk1 : Kept (ob :: (Value.slice la n lc).ownBlock.toList) w w1 := by rw [hw1]; exact (Kept.refl _ w).alloc _
  clear hw1
  have m0 : w1.cell? ⟨w.heap.size, 0, none⟩ = some (.int .u32 (self : Int)) := hm.cell (i := 0) (by omega)
  have m1 : w1.cell? ⟨w.heap.size, 1, none⟩ = some (.int .u32 (life : Int)) := hm.cell (i := 1) (by omega)
  have m2 : w1.cell? ⟨w.heap.size, 2, none⟩ = some (.int .u64 (seq : Int)) := hm.cell (i := 2) (by omega)
  have m3 : w1.cell? ⟨w.heap.size, 3, none⟩ = some (.slice at0 L c) := hm.cell (i := 3) (by omega)
  have c0 : w1.cell? ⟨ob, 0, none⟩ = some (.slice la n lc) := hO1.cell (by omega)
  obtain ⟨b3, cap3, w3, hap, hO3, hL3, hb3, hat3, hk3⟩ := log_app w1 ob B n lc 0 dst self life seq L c la at0 lf hO1 hL1 hn (by have := hk1.size; omega)
  rw [show ((0 : Nat) : Int) = 0 from rfl] at hap
  have f3 := hO3.frozen 0
  have c3 : w3.cell? ⟨ob, 0, none⟩ = some (.slice la n lc) := hO3.cell (by omega)
  have hlt1 : ob < w1.heap.size := hO1.lt
  have hltm : w.heap.size < w1.heap.size := hm.lt
  have HO3 := hid hO3
  have HL3 := hid hL3
  have HK3 := hid (hk1.trans hk3)
  have HAT := hid hat3
  have HK1 := hid hk1
  clear hO1 hL1 hm hO3 hL3 hk3 hat3 hk1
  go_big_region
  go_wp2
  go_end0
  refine ⟨rfl, _, (HO3.out.set 0 _).congr (fun i hi => by (obtain rfl : i = 0 := by omega); rfl), vec_set HL3.out (fun h => hb3 (by simpa [Value.ownBlock] using h)) _, fun b hb => ?_, HK3.out.setCell (.inl (by simp)) _⟩
  simp only [Value.ownBlock, Option.some.injEq] at hb
  rw [← hb]
  exact HAT.out.imp id (fun h => by omega)
end Go.Proofs.YbulkgbaiDoor
