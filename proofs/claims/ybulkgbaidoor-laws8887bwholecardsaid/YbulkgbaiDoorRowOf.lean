import Derived.Test.YbulkgbaiDoorMap
namespace Go.Proofs.YbulkgbaiDoor
open Go.RowKit Go.Zz Go.Maps

theorem rm_ne {w : World} {b rm o j m : Nat} {t : TypeId} {f : Nat → Value} (hM : RM w rm o j) (hr : w.rowIs b t m f) : rm ≠ b := by
  intro h
  obtain ⟨n, D, ⟨es, clock, hb, _⟩, _⟩ := hM
  obtain ⟨c, hc, _⟩ := hr
  rw [h, hc] at hb
  cases hb

theorem rm_vec {w : World} {B rm o j n size : Nat} {t : TypeId} {v : Value} {f : Nat → Value} (hM : RM w rm o j) (hv : Vec w B t size v n f) : v.ownBlock ≠ some rm := by
  rcases hv.2 with ⟨h1, _⟩ | ⟨c, cap, cur, h1, h2, h3, _⟩
  · rw [h1]; simp [Value.ownBlock]
  · intro hb
    rw [h1] at hb
    simp only [Value.ownBlock, Option.some.injEq] at hb
    subst hb
    obtain ⟨n, D, ⟨es, clock, hb, _⟩, _⟩ := hM
    rw [h3] at hb
    cases hb

attribute [-go_sem] Builtin.append_

set_option maxRecDepth 100000 in
/-- (*copies).rowOf at a key that is not there, no row free -/
theorem rowOf_new (eb B o j R W N fc : Nat) (fa : Option Addr) (e : EV) (w : World) (f : Nat → Value) (hE : E w eb e) (hB : B ≤ eb) (hfree : e.free = .slice fa 0 fc) (hW : e.words = W) (hW0 : 0 < W) (hW1 : W ≤ 16) (hN : N = R * W) (hR : R ≤ 64)
    (hV : Vec w B 33 1 e.bits N f) (hM : RM w e.rm o j) (ho : o < 18446744073709551616) (hj : j < 1000) :
    Calls Ybad.prog 22 #[.pointer (some ⟨eb, 5, none⟩), kv o (j + 1)] w fun x w' => x = .returned (.int .i64 (R : Int)) ∧
      ∃ bb cap, E w' eb { e with bits := .slice (some ⟨bb, 0, none⟩) (N + W) cap } ∧ Vec w' B 33 1 (.slice (some ⟨bb, 0, none⟩) (N + W) cap) (N + W) (fun i => if i < N then f i else .int .u64 0) ∧
        (e.bits.ownBlock = some bb ∨ w.heap.size ≤ bb) ∧ RM w' e.rm o (j + 1) ∧ Kept (eb :: e.rm :: e.bits.ownBlock.toList) w w' := by
  have hN1 : N ≤ 1024 := by
    rw [hN]
    exact Nat.le_trans (Nat.mul_le_mul hR hW1) (by omega)
  have hrmlt := hM.lt
  have hM1 : RM (w.alloc (.cells #[.int .u64 (o : Int), .int .u64 ((j + 1 : Nat) : Int)] 70)) e.rm o j := hM.of_block (Deep.blk_alloc_lt _ _ _ hM.lt)
  have hlk : ∀ n, (Instr.lookup 48 (.map (some e.rm)) (kv o (j + 1)) true).run Ybad.prog ((w.alloc (.cells #[.int .u64 (o : Int), .int .u64 ((j + 1 : Nat) : Int)] 70)).drewN n) = .ok (.tuple #[.int .i64 0, .bool false]) ((w.alloc (.cells #[.int .u64 (o : Int), .int .u64 ((j + 1 : Nat) : Int)] 70)).drewN n) := fun n => RM.look (w := (w.alloc (.cells #[.int .u64 (o : Int), .int .u64 ((j + 1 : Nat) : Int)] 70)).drewN n) hM1 (by omega) ho (by omega)
  have hlt : eb < w.heap.size := World.rowIs.lt hE
  have c5 := hE.c5
  have c6 := hE.c6
  have c7 := hE.c7
  have c8 := hE.c8
  rw [hfree] at c7
  rw [hW] at c8
  have hbv : ∃ ba bc, e.bits = .slice ba N bc := by
    rcases hV.shape with ⟨h, h0⟩ | ⟨b, c, h, _⟩
    · exact ⟨_, _, by rw [h, h0]⟩
    · exact ⟨_, _, h⟩
  obtain ⟨ba, bc, hbv⟩ := hbv
  rw [hbv] at c6
  have q0 : wrap64 ((N : Int) / (W : Int)) = (R : Int) := by
    rw [hN, Int.natCast_mul, Int.mul_ediv_cancel _ (by omega)]
    unfold wrap64
    omega
  unfold kv at hlk ⊢
  obtain ⟨s, hs⟩ : ∃ s, s = j + 1 := ⟨_, rfl⟩
  rw [← hs] at hlk ⊢
  have HE := hid hE
  have HV := hid hV
  have HM := hid hM
  have HS := hid hs
  have HBV := hid hbv
  have HQ := hid q0
  have HW := hid hW
  clear hE hV hM hM1 hs hbv hN hW hfree q0
  go_enter Ybad.func22, Ybad.ntmps22
  go_wp2
  go_quiet (fail)
  go_wp2
  go_quiet (fail)
  go_upto_region 9 with fail
  rw [HQ.out]
  refine wp_gen (fun w2 hw2 => ?_)
  have hE2 : E w2 eb e := by
    rw [hw2]
    exact World.rowIs.alloc HE.out _
  have hV2 : Vec w2 B 33 1 e.bits N f := by
    rw [hw2]
    exact HV.out.alloc _
  have hM2 : RM w2 e.rm o j := by
    rw [hw2]
    exact HM.out.of_block (Deep.blk_alloc_lt _ _ _ HM.out.lt)
  have hK2 : w2.rowIs w.heap.size 70 2 (fun i => if i = 0 then .int .u64 (o : Int) else .int .u64 (s : Int)) := by
    rw [hw2]
    exact ⟨_, Deep.blk_alloc_new _ _, rfl, fun i hi => by rcases i with _ | _ | i <;> first | rfl | omega⟩
  have hk2 : Kept (eb :: e.rm :: e.bits.ownBlock.toList) w w2 := by
    rw [hw2]
    exact (((Kept.refl _ w).alloc _).drewN _).drewN _
  clear hw2 hlk c5 c6 c7 c8
  have d6 := hE2.c6
  have d8 := hE2.c8
  rw [HBV.out] at d6
  rw [HW.out] at d8
  obtain ⟨b3, cap3, w3, hap, hV3, hgr3, hat3⟩ := run_append_zeros Ybad.prog w2.drew B 49 3 49 33 .i64 (.int .u64 0) 8 Ybad.underlying49 Ybad.underlying3 info33 rfl rfl e.bits N f hV2 W hW0 (fun i => if i < N then f i else .int .u64 0)
    (fun i hi => if_pos hi) (fun i hi => if_neg (by omega)) (by unfold maxLen; omega) (by omega) (by have := hk2.size; show B ≤ w2.heap.size; omega)
  have hne : e.bits.ownBlock ≠ some eb := vec_ne HV.out HE.out (by decide)
  have hnk : e.bits.ownBlock ≠ some w.heap.size := fun h => by have := (World.ownsRow.lt HV.out _ h).2; omega
  have hnm : e.bits.ownBlock ≠ some e.rm := rm_vec HM.out HV.out
  have hE3 : E w3 eb e := rowIs_grown (w := w2.drew) hE2 hgr3 (fun h => hne h.symm)
  have hK3 : w3.rowIs w.heap.size 70 2 (fun i => if i = 0 then .int .u64 (o : Int) else .int .u64 (s : Int)) := rowIs_grown (w := w2.drew) hK2 hgr3 (fun h => hnk h.symm)
  have hM3 : RM w3 e.rm o j := RM.of_block (w := w2.drew) hM2 (hgr3.block _ hM2.lt (fun h => hnm h.symm))
  have hk3 : Kept (eb :: e.rm :: e.bits.ownBlock.toList) w w3 := (hk2.drew).grown hgr3 (fun k hk => .inl (by simp [hk]))
  have hb3 : e.bits.ownBlock = some b3 ∨ w.heap.size < b3 := hat3.imp id (fun h => by have := hK2.lt; rw [h]; exact this)
  have hnb : b3 ≠ eb := by
    rcases hb3 with h | h
    · exact fun e => hne (by rw [h, e])
    · omega
  rw [HBV.out] at hap
  have g6 := hE3.fz 6
  have e6 := hE3.c6
  have hlt2 : eb < w2.heap.size := World.rowIs.lt hE2
  have HE3 := hid hE3
  have HV3 := hid hV3
  have HK3 := hid hK3
  have HM3 := hid hM3
  have HKp3 := hid hk3
  have HB3 := hid hb3
  clear hE2 hV2 hM2 hK2 hk2 hgr3 hat3 hE3 hV3 hK3 hM3 hk3 hb3
  go_big_region
  go_upto_region 10 with fail
  refine wp_gen (fun w4 hw4 => ?_)
  have hE4 : E w4 eb { e with bits := .slice (some ⟨b3, 0, none⟩) (N + W) cap3 } := by
    rw [hw4]
    exact E.bits HE3.out _
  have hV4 : Vec w4 B 33 1 (.slice (some ⟨b3, 0, none⟩) (N + W) cap3) (N + W) (fun i => if i < N then f i else .int .u64 0) := by
    rw [hw4]
    exact vec_set HV3.out (fun h => hnb (by simpa [Value.ownBlock] using h)) _
  have hnrm : e.rm ≠ eb := rm_ne HM.out HE.out
  have hM4 : RM w4 e.rm o j := by
    rw [hw4]
    exact HM3.out.of_block (Deep.blk_setCell_other _ _ _ _ hnrm)
  have hK4 : w4.rowIs w.heap.size 70 2 (fun i => if i = 0 then .int .u64 (o : Int) else .int .u64 (s : Int)) := by
    rw [hw4]
    exact HK3.out.setOther (by show w.heap.size ≠ eb; omega) _
  have hk4 : Kept (eb :: e.rm :: e.bits.ownBlock.toList) w w4 := by
    rw [hw4]
    exact HKp3.out.setCell (.inl (by simp)) _
  clear hw4 hap d6 d8 g6 e6
  obtain ⟨w5, hst, hM5, hgr5⟩ := RM.store (w := w4.drew) hM4 R (by omega) (by omega) ho
  have d5 := hE4.c5
  have k0 : w4.cell? ⟨w.heap.size, 0, none⟩ = some (.int .u64 (o : Int)) := hK4.cell (i := 0) (by omega)
  have k1 : w4.cell? ⟨w.heap.size, 1, none⟩ = some (.int .u64 (s : Int)) := hK4.cell (i := 1) (by omega)
  have hE5 : E w5 eb { e with bits := .slice (some ⟨b3, 0, none⟩) (N + W) cap3 } := rowIs_grown (w := w4.drew) hE4 hgr5 (fun h => hnrm (by simpa using h.symm))
  have hnm3 : b3 ≠ e.rm := by
    rcases HB3.out with h | h
    · exact fun e => hnm (by rw [h, e])
    · omega
  have hV5 : Vec w5 B 33 1 (.slice (some ⟨b3, 0, none⟩) (N + W) cap3) (N + W) (fun i => if i < N then f i else .int .u64 0) := Vec.kept (w := w4.drew) hV4 hgr5 (.inr (fun h => hnm3 (by simpa [Value.ownBlock] using h)))
  have hk5 : Kept (eb :: e.rm :: e.bits.ownBlock.toList) w w5 := (hk4.drew).grown hgr5 (fun k hk => .inl (by simp at hk; simp [hk]))
  unfold kv at hst
  rw [← HS.out] at hst hM5
  have HE5 := hid hE5
  have HV5 := hid hV5
  have HM5 := hid hM5
  have HKp5 := hid hk5
  clear hE4 hV4 hM4 hK4 hk4 hgr5 hE5 hV5 hM5 hk5
  go_region
  go_wp2
  go_ret
  refine ⟨rfl, b3, cap3, HE5.out, HV5.out, HB3.out.imp id (fun h => by omega), HM5.out, HKp5.out⟩

theorem vec_empty {w : World} {B : Nat} {t : TypeId} {b n c : Nat} {f g : Nat → Value} (h : Vec w B t 1 (.slice (some ⟨b, 0, none⟩) n c) n f) : Vec w B t 1 (.slice (some ⟨b, 0, none⟩) 0 c) 0 g := by
  refine ⟨rfl, ?_⟩
  rcases h.2 with ⟨h1, _⟩ | ⟨b', cap, cur, h1, h2, h3, h4, h5, h6, _⟩
  · cases h1
  · simp only [Value.slice.injEq, Option.some.injEq, Addr.mk.injEq] at h1
    obtain ⟨⟨rfl, _⟩, _, rfl⟩ := h1
    exact .inr ⟨b, c, cur, rfl, h2, h3, Nat.zero_le _, h5, h6, by simp [vals]⟩

set_option maxRecDepth 100000 in
/-- (*copies).rowOf at a key that is not there, row 0 free -/
theorem rowOf_free (eb B o j fb fc : Nat) (e : EV) (w : World) (hE : E w eb e) (hfree : e.free = .slice (some ⟨fb, 0, none⟩) 1 fc)
    (hF : Vec w B 3 1 e.free 1 (fun _ => .int .i64 0)) (hM : RM w e.rm o j) (ho : o < 18446744073709551616) (hj : j < 1000) :
    Calls Ybad.prog 22 #[.pointer (some ⟨eb, 5, none⟩), kv o (j + 1)] w fun x w' => x = .returned (.int .i64 0) ∧
      E w' eb { e with free := .slice (some ⟨fb, 0, none⟩) 0 fc } ∧ Vec w' B 3 1 (.slice (some ⟨fb, 0, none⟩) 0 fc) 0 (fun _ => .int .i64 0) ∧ RM w' e.rm o (j + 1) ∧ Kept [eb, e.rm] w w' := by
  have hrmlt := hM.lt
  have hM1 : RM (w.alloc (.cells #[.int .u64 (o : Int), .int .u64 ((j + 1 : Nat) : Int)] 70)) e.rm o j := hM.of_block (Deep.blk_alloc_lt _ _ _ hM.lt)
  have hlk : ∀ n, (Instr.lookup 48 (.map (some e.rm)) (kv o (j + 1)) true).run Ybad.prog ((w.alloc (.cells #[.int .u64 (o : Int), .int .u64 ((j + 1 : Nat) : Int)] 70)).drewN n) = .ok (.tuple #[.int .i64 0, .bool false]) ((w.alloc (.cells #[.int .u64 (o : Int), .int .u64 ((j + 1 : Nat) : Int)] 70)).drewN n) := fun n => RM.look (w := (w.alloc (.cells #[.int .u64 (o : Int), .int .u64 ((j + 1 : Nat) : Int)] 70)).drewN n) hM1 (by omega) ho (by omega)
  have hlt : eb < w.heap.size := World.rowIs.lt hE
  have hne : e.free.ownBlock ≠ some eb := vec_ne hF hE (by decide)
  have hnm : e.free.ownBlock ≠ some e.rm := rm_vec hM hF
  have hflt := (World.ownsRow.lt hF fb (by rw [hfree]; rfl)).2
  rw [hfree] at hF hne hnm
  have c5 := hE.c5
  have c7 := hE.c7
  rw [hfree] at c7
  have k7 := hF.cell (j := 0) (by omega)
  have hfc : 1 ≤ fc := by
    rcases hF.shape with ⟨h, _⟩ | ⟨b, c, h, _, _, h2, _⟩
    · cases h
    · simp only [Value.slice.injEq] at h
      omega
  unfold kv at hlk ⊢
  obtain ⟨s, hs⟩ : ∃ s, s = j + 1 := ⟨_, rfl⟩
  rw [← hs] at hlk ⊢
  have f7 := hE.fz 7
  have HE := hid hE
  have HF := hid hF
  have HM := hid hM
  have HS := hid hs
  clear hE hF hM hM1 hs hfree
  go_enter Ybad.func22, Ybad.ntmps22
  go_wp2
  go_quiet (fail)
  go_wp2
  go_big_region
  go_upto_region 10 with fail
  refine wp_gen (fun w4 hw4 => ?_)
  have hK0 : (w.alloc (.cells #[.int .u64 (o : Int), .int .u64 (s : Int)] 70)).rowIs w.heap.size 70 2 (fun i => if i = 0 then .int .u64 (o : Int) else .int .u64 (s : Int)) :=
    ⟨_, Deep.blk_alloc_new _ _, rfl, fun i hi => by rcases i with _ | _ | i <;> first | rfl | omega⟩
  have hE4 : E w4 eb { e with free := .slice (some ⟨fb, 0, none⟩) 0 fc } := by
    rw [hw4]
    exact E.free (World.rowIs.alloc HE.out _) _
  have hF4 : Vec w4 B 3 1 (.slice (some ⟨fb, 0, none⟩) 0 fc) 0 (fun _ => .int .i64 0) := by
    rw [hw4]
    exact vec_set (vec_empty (HF.out.alloc _)) (fun h => hne (by simpa [Value.ownBlock] using h)) _
  have hnrm : e.rm ≠ eb := rm_ne HM.out HE.out
  have hM4 : RM w4 e.rm o j := by
    rw [hw4]
    exact (HM.out.of_block (Deep.blk_alloc_lt _ _ _ HM.out.lt)).of_block (Deep.blk_setCell_other _ _ _ _ hnrm)
  have hK4 : w4.rowIs w.heap.size 70 2 (fun i => if i = 0 then .int .u64 (o : Int) else .int .u64 (s : Int)) := by
    rw [hw4]
    exact World.rowIs.setOther hK0 (a := ⟨eb, 7, none⟩) (by show w.heap.size ≠ eb; omega) _
  have hk4 : Kept [eb, e.rm] w w4 := by
    rw [hw4]
    exact (((Kept.refl [eb, e.rm] w).alloc _).drewN _).setCell (a := ⟨eb, 7, none⟩) (.inl (by simp)) _
  clear hw4 hlk c5 c7 k7 f7
  obtain ⟨w5, hst, hM5, hgr5⟩ := RM.store (w := w4.drew) hM4 0 (by omega) (by omega) ho
  have d5 := hE4.c5
  have k0 : w4.cell? ⟨w.heap.size, 0, none⟩ = some (.int .u64 (o : Int)) := hK4.cell (i := 0) (by omega)
  have k1 : w4.cell? ⟨w.heap.size, 1, none⟩ = some (.int .u64 (s : Int)) := hK4.cell (i := 1) (by omega)
  have hE5 : E w5 eb { e with free := .slice (some ⟨fb, 0, none⟩) 0 fc } := rowIs_grown (w := w4.drew) hE4 hgr5 (fun h => hnrm (by simpa using h.symm))
  have hF5 : Vec w5 B 3 1 (.slice (some ⟨fb, 0, none⟩) 0 fc) 0 (fun _ => .int .i64 0) := Vec.kept (w := w4.drew) hF4 hgr5 (.inr (fun h => hnm (by simpa [Value.ownBlock] using h)))
  have hk5 : Kept [eb, e.rm] w w5 := (hk4.drew).grown hgr5 (fun k hk => .inl (by simp at hk; simp [hk]))
  unfold kv at hst
  rw [← HS.out] at hst hM5
  rw [show ((0 : Nat) : Int) = 0 from rfl] at hst
  have HE5 := hid hE5
  have HF5 := hid hF5
  have HM5 := hid hM5
  have HKp5 := hid hk5
  clear hE4 hF4 hM4 hK4 hk4 hgr5 hE5 hF5 hM5 hk5
  go_region
  go_wp2
  go_ret
  exact ⟨rfl, HE5.out, HF5.out, HM5.out, HKp5.out⟩
end Go.Proofs.YbulkgbaiDoor
