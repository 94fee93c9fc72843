import Derived.Test.YbulkgbaiDoorRowOf
import Derived.WalkSmall
namespace Go.Proofs.YbulkgbaiDoor
open Go.RowKit Go.Zz Go.Maps

theorem info3 : (Ybad.prog.info? 3).map (fun i => (i.zero, i.size, i.bytes)) = some (some (.int .i64 0), 1, 8) := by kernel_rfl

theorem E.alloc {w : World} {eb : Nat} {e : EV} (h : E w eb e) (o : Obj) : E (w.alloc o) eb e := World.rowIs.alloc h o

set_option maxRecDepth 100000 in
/-- (*copies).release where some link has still to bring the message -/
theorem release_stay (eb o s : Nat) (e : EV) (w : World) (bb len cap W r r1 lo hi x : Nat) (hE : E w eb e) (hbits : e.bits = .slice (some ⟨bb, 0, none⟩) len cap) (hW : e.words = W)
    (h1 : r + 1 = r1) (h2 : r * W = lo) (h3 : r1 * W = hi) (hW0 : 0 < W) (hcap : hi ≤ cap) (hb : hi ≤ 1048576) (hr : r ≤ 1048576) (hx : w.cell? ⟨bb, lo, none⟩ = some (.int .u64 (x : Int))) (hx0 : 0 < x) (hbb : bb < w.heap.size) :
    Calls Ybad.prog 25 #[.pointer (some ⟨eb, 5, none⟩), kv o s, .int .i64 (r : Int)] w fun y w' => y = .returned (.tuple #[]) ∧ Below w.heap.size w w' := by
  have hrow := row_any eb e (w.alloc (.cells #[.int .u64 (o : Int), .int .u64 (s : Int)] 70)) bb len cap W r r1 lo hi (hE.alloc _) hbits hW h1 h2 h3 hW0 hcap hb hr
  have hlh : lo < hi := by rw [← h2, ← h3, ← h1, Nat.succ_mul]; omega
  have HROW := hid hrow
  have hd0 : 0 < hi - lo := by omega
  have e0 : ((x : Int) != 0) = true := by simp; omega
  unfold kv
  clear h1 h2 h3 hrow hE hbits hW
  go_enter Ybad.func25, Ybad.ntmps25
  go_upto_block 0 with (go_at_call 21; refine HROW.out.mono ?_; rintro y w2 ⟨rfl, q, rfl⟩)
  go_wp2_with fail
  go_loopw [12] (fun i wr => i = .int .i64 0 ∧ (w.alloc (.cells #[.int .u64 (o : Int), .int .u64 (s : Int)] 70)).drewN q = wr) (fun _ _ => 0)
  case atStart => exact ⟨rfl, rfl⟩
  case round =>
    obtain ⟨rfl, rfl⟩ := hrel
    go_wp2
    exact bodyPost_ret (v := .tuple #[]) (by simp [results, Ybad.results25, go_sem]) rfl ⟨rfl, below_drewN ((Below.refl _ _).alloc (Nat.le_refl _) _) _⟩


attribute [-go_sem] Builtin.append_

set_option maxRecDepth 100000 in
/-- (*copies).release where no link has to bring the message: no link at all -/
theorem release_free (eb B o s j : Nat) (e : EV) (w : World) (bb len cap fc : Nat) (fa : Option Addr) (hE : E w eb e) (hB : B ≤ eb) (hbits : e.bits = .slice (some ⟨bb, 0, none⟩) len cap) (hW : e.words = 1) (hcap : 1 ≤ cap)
    (hx : w.cell? ⟨bb, 0, none⟩ = some (.int .u64 0)) (hbb : bb < w.heap.size) (hM : RM w e.rm o j) (ho : o < 18446744073709551616) (hs : s < 18446744073709551616) (hfree : e.free = .slice fa 0 fc) (hF : Vec w B 3 1 e.free 0 (fun _ => .int .i64 0)) :
    Calls Ybad.prog 25 #[.pointer (some ⟨eb, 5, none⟩), kv o s, .int .i64 0] w fun y w' => y = .returned (.tuple #[]) ∧
      ∃ fb fc', E w' eb { e with free := .slice (some ⟨fb, 0, none⟩) 1 fc' } ∧ Vec w' B 3 1 (.slice (some ⟨fb, 0, none⟩) 1 fc') 1 (fun _ => .int .i64 0) ∧ RM w' e.rm o j ∧ Kept (eb :: e.rm :: e.free.ownBlock.toList) w w' := by
  have hrow := row_any eb e (w.alloc (.cells #[.int .u64 (o : Int), .int .u64 (s : Int)] 70)) bb len cap 1 0 1 0 1 (hE.alloc _) hbits hW rfl rfl rfl (by omega) hcap (by omega) (by omega)
  rw [show ((0 : Nat) : Int) = 0 from rfl, show (1 - 0 : Nat) = 1 from rfl] at hrow
  have HROW := hid hrow
  have HE := hid hE
  have HM := hid hM
  have HF := hid hF
  have HFR := hid hfree
  have hlt : eb < w.heap.size := World.rowIs.lt hE
  unfold kv
  clear hrow hE hbits hW hM hF hfree
  go_enter Ybad.func25, Ybad.ntmps25
  go_upto_block 0 with (go_at_call 21; refine HROW.out.mono ?_; rintro y w2 ⟨rfl, q, rfl⟩)
  go_cut [7, 12] from 12 to 18 (fun _ _ wx => (w.alloc (.cells #[.int .u64 (o : Int), .int .u64 (s : Int)] 70)).drewN q = wx)
  case first =>
    go_wp2_with fail
    go_loopw [12, 7] (fun i _ wr => ∃ k : Nat, k ≤ 1 ∧ i = .int .i64 k ∧ (w.alloc (.cells #[.int .u64 (o : Int), .int .u64 (s : Int)] 70)).drewN q = wr) (fun i _ _ => 1 - (intOf i).toNat)
    case atStart => exact ⟨0, by omega, rfl, rfl⟩
    case round =>
      obtain ⟨k, hk, rfl, rfl⟩ := hrel
      rcases (show k = 0 ∨ k = 1 by omega) with rfl | rfl
      · rw [show ((0 : Nat) : Int) = 0 from rfl]
        go_wp2
        go_roundw
        case rel => exact ⟨1, by omega, by go_num, trivial⟩
        case measure => simp [intOf]
      · rw [show ((1 : Nat) : Int) = 1 from rfl]
        go_wp2
        go_meet
        rfl
  case rest =>
    obtain rfl := hcut
    go_upto_region 6 with fail
    refine wp_gen (fun w2 hw2 => ?_)
    have hE2 : E w2 eb e := by rw [hw2]; exact World.rowIs.alloc HE.out _
    have hM2 : RM w2 e.rm o j := by rw [hw2]; exact HM.out.of_block (Deep.blk_alloc_lt _ _ _ HM.out.lt)
    have hF2 : Vec w2 B 3 1 e.free 0 (fun _ => .int .i64 0) := by rw [hw2]; exact HF.out.alloc _
    have hK2 : w2.rowIs w.heap.size 70 2 (fun i => if i = 0 then .int .u64 (o : Int) else .int .u64 (s : Int)) := by
      rw [hw2]
      exact ⟨_, Deep.blk_alloc_new _ _, rfl, fun i hi => by rcases i with _ | _ | i <;> first | rfl | omega⟩
    have hk2 : Kept (eb :: e.rm :: e.free.ownBlock.toList) w w2 := by rw [hw2]; exact ((Kept.refl _ w).alloc _).drewN _
    clear hw2
    obtain ⟨w3, hdel, hM3, hgr3⟩ := RM.drop (w := w2.drew) hM2 ho hs 0
    unfold kv at hdel
    have d5 := hE2.c5
    have k0 : w2.cell? ⟨w.heap.size, 0, none⟩ = some (.int .u64 (o : Int)) := hK2.cell (i := 0) (by omega)
    have k1 : w2.cell? ⟨w.heap.size, 1, none⟩ = some (.int .u64 (s : Int)) := hK2.cell (i := 1) (by omega)
    have hnrm : e.rm ≠ eb := rm_ne HM.out HE.out
    have hnf : e.free.ownBlock ≠ some e.rm := rm_vec HM.out HF.out
    have hne : e.free.ownBlock ≠ some eb := vec_ne HF.out HE.out (by decide)
    have hE3 : E w3 eb e := rowIs_grown (w := w2.drew) hE2 hgr3 (fun h => hnrm (by simpa using h.symm))
    have hF3 : Vec w3 B 3 1 e.free 0 (fun _ => .int .i64 0) := Vec.kept (w := w2.drew) hF2 hgr3 (.inr hnf)
    have hk3 : Kept (eb :: e.rm :: e.free.ownBlock.toList) w w3 := (hk2.drew).grown hgr3 (fun k hk => .inl (by simp at hk; simp [hk]))
    clear hE2 hM2 hF2 hK2 hk2 hgr3
    have c7 : w3.cell? ⟨eb, 7, none⟩ = some e.free := hE3.c7
    obtain ⟨b4, cap4, w4, hap, hV4, hgr4, hat4, _⟩ := run_append_vec Ybad.prog (w3.alloc (.cells #[.int .i64 0] 3)) B 50 50 3 _ 1 8 Ybad.underlying50 info3 rfl (by decide) e.free 0 _ (hF3.alloc _) ⟨w3.heap.size, 0, none⟩ 1 1 (by decide) (fun _ => .int .i64 0) (fun _ => .int .i64 0)
      (fun j hj => by (obtain rfl : j = 0 := by omega); rw [add_zero_plain]; simp) (fun _ _ => rfl) (fun j hj => by omega) (fun j hj => rfl) (by unfold maxLen; omega) (by omega) (by rw [Deep.nblk_alloc]; have := hk3.size; omega)
    have hE4 : E w4 eb e := rowIs_grown (World.rowIs.alloc hE3 _) hgr4 (fun h => hne h.symm)
    have hM4 : RM w4 e.rm o j := (hM3.of_block (Deep.blk_alloc_lt _ _ _ hM3.lt)).of_block (hgr4.block _ (by rw [Deep.nblk_alloc]; have := hM3.lt; omega) (fun h => hnf h.symm))
    have hk4 : Kept (eb :: e.rm :: e.free.ownBlock.toList) w w4 := (hk3.alloc _).grown hgr4 (fun k hk => .inl (by simp [hk]))
    have hb4 : b4 ≠ eb := by
      have h2 := World.rowIs.lt hE3
      rcases hat4 with h | h
      · exact fun e => hne (by rw [h, e])
      · rw [Deep.nblk_alloc] at h
        omega
    have g7 := hE4.fz 7
    have e7 := hE4.c7
    have hlt3 : eb < w3.heap.size := World.rowIs.lt hE3
    rw [HFR.out] at c7 hap
    have HAP := hid hap
    have HE4 := hid hE4
    have HV4 := hid hV4
    have HM4 := hid hM4
    have HK4 := hid hk4
    clear hap hE4 hV4 hM4 hk4 hE3 hF3 hk3 hM3 hgr4 hat4
    go_region
    go_wp2_with (at_builtin; refine wpList_append_run rfl (.tmp 28) (.tmp 30) 50 50 rfl rfl rfl rfl HAP.out ?_)
    go_end0
    exact ⟨rfl, b4, cap4, E.free HE4.out _, vec_set HV4.out (fun h => hb4 (by simpa [Value.ownBlock] using h)) _, HM4.out.of_block (Deep.blk_setCell_other _ _ _ _ hnrm), HK4.out.setCell (.inl (by simp)) _⟩
end Go.Proofs.YbulkgbaiDoor
