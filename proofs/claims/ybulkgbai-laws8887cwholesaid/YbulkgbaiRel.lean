import Derived.Test.YbulkgbaiEng
namespace Go.Proofs.Ybulkgbai
open Go.RowKit Go.Zz Go.Maps

/-- (*copies).row, a word a row -/
theorem row_one (eb : Nat) (e : EV) (w : World) (bb N cap r : Nat) (hE : E w eb e) (hbits : e.bits = .slice (some ⟨bb, 0, none⟩) N cap) (hW : e.words = 1) (hr : r < N) (hN : N ≤ cap) (hb : N ≤ 1048576) :
    Calls Yba.prog 40 #[.pointer (some ⟨eb, 5, none⟩), .int .i64 (r : Int)] w fun x w' => x = .returned (.slice (some ⟨bb, r, none⟩) 1 (cap - r)) ∧ ∃ q, w' = w.drewN q := by
  have h := row_any eb e w bb N cap 1 r (r + 1) r (r + 1) hE hbits hW rfl (by omega) (by omega) (by omega) (by omega) (by omega) (by omega)
  rw [show r + 1 - r = 1 by omega] at h
  exact h

set_option maxRecDepth 100000 in
/-- (*copies).release where some link has still to bring the message -/
theorem release_stay (eb o s : Nat) (e : EV) (w : World) (bb N cap r x : Nat) (hE : E w eb e) (hbits : e.bits = .slice (some ⟨bb, 0, none⟩) N cap) (hW : e.words = 1) (hr : r < N) (hN : N ≤ cap) (hb : N ≤ 1048576)
    (hx : w.cell? ⟨bb, r, none⟩ = some (.int .u64 (x : Int))) (hx0 : 0 < x) (hbb : bb < w.heap.size) :
    Calls Yba.prog 41 #[.pointer (some ⟨eb, 5, none⟩), kv o s, .int .i64 (r : Int)] w fun y w' => y = .returned (.tuple #[]) ∧ Below w.heap.size w w' := by
  have hrow := row_one eb e (w.alloc (.cells #[.int .u64 (o : Int), .int .u64 (s : Int)] 59)) bb N cap r (hE.alloc _) hbits hW hr hN hb
  have HROW := hid hrow
  have e0 : ((x : Int) != 0) = true := by simp; omega
  unfold kv
  clear hrow hE hbits hW
  go_enter Yba.func41, Yba.ntmps41
  go_upto_block 0 with (go_at_call 40; refine HROW.out.mono ?_; rintro y w2 ⟨rfl, q, rfl⟩)
  go_wp2_with fail
  go_loopw [12] (fun i wr => i = .int .i64 0 ∧ (w.alloc (.cells #[.int .u64 (o : Int), .int .u64 (s : Int)] 59)).drewN q = wr) (fun _ _ => 0)
  case atStart => exact ⟨rfl, rfl⟩
  case round =>
    obtain ⟨rfl, rfl⟩ := hrel
    go_wp2
    exact bodyPost_ret (v := .tuple #[]) (by simp [results, Yba.results41, go_sem]) rfl ⟨rfl, below_drewN ((Below.refl _ _).alloc (Nat.le_refl _) _) _⟩

/-- a list of numbers, as a row holds it -/
def lf (l : List Nat) (t : Nat) : Value := iv (l.getD t 0)
theorem lf_app {l l' : List Nat} {j : Nat} (h : j < l.length) : lf (l ++ l') j = lf l j := by
  unfold lf
  rw [List.getD_eq_getElem?_getD, List.getD_eq_getElem?_getD, List.getElem?_append_left h]
theorem lf_last {l : List Nat} {r : Nat} : lf (l ++ [r]) l.length = iv r := by
  unfold lf
  simp [List.getD_eq_getElem?_getD]

attribute [-go_sem] Builtin.append_

set_option maxRecDepth 100000 in
/-- (*copies).release where no link has to bring the message any more, under a range over the rows -/
theorem release_free (eb B it : Nat) (e : EV) (w : World) (bb N cap r c : Nat) (fl : List Nat) (V : Nat → Value) (M L : Nat → Bool) (hE : E w eb e) (hB : B ≤ eb) (hbits : e.bits = .slice (some ⟨bb, 0, none⟩) N cap) (hW : e.words = 1) (hr : r < N) (hN : N ≤ cap) (hb : N ≤ 1048576)
    (hx : w.cell? ⟨bb, r, none⟩ = some (.int .u64 0)) (hbb : bb < w.heap.size) (hM : RX w Yba.prog 59 e.rm it N (fun i => kv i 1) V M L c) (hF : Vec w B 3 1 e.free fl.length (lf fl)) (hfl : fl.length < 1048576) :
    Calls Yba.prog 41 #[.pointer (some ⟨eb, 5, none⟩), kv r 1, .int .i64 (r : Int)] w fun y w' => y = .returned (.tuple #[]) ∧
      ∃ fb fc c', E w' eb { e with free := .slice (some ⟨fb, 0, none⟩) (fl.length + 1) fc } ∧ Vec w' B 3 1 (.slice (some ⟨fb, 0, none⟩) (fl.length + 1) fc) (fl.length + 1) (lf (fl ++ [r])) ∧
        RX w' Yba.prog 59 e.rm it N (fun i => kv i 1) V (fun j => M j && !decide (j = r)) (fun j => L j && !decide (j = r)) c' ∧ c' ≤ c ∧ (e.free.ownBlock = some fb ∨ w.heap.size ≤ fb) ∧ Kept (eb :: e.rm :: e.free.ownBlock.toList) w w' := by
  have hrow := row_one eb e (w.alloc (.cells #[.int .u64 (r : Int), .int .u64 1] 59)) bb N cap r (hE.alloc _) hbits hW hr hN hb
  have HROW := hid hrow
  have HE := hid hE
  have HM := hid hM
  have HF := hid hF
  have hlt : eb < w.heap.size := World.rowIs.lt hE
  have hnit : it ≠ eb := by
    intro h
    obtain ⟨x, y, z, v, hi⟩ := hM.iter
    obtain ⟨cs, hc, _⟩ := hE
    rw [h, hc] at hi
    cases hi
  have hnif : e.free.ownBlock ≠ some it := by
    rcases hF.2 with ⟨h1, _⟩ | ⟨c, cap, cur, h1, h2, h3, _⟩
    · rw [h1]; simp [Value.ownBlock]
    · intro hb
      rw [h1] at hb
      simp only [Value.ownBlock, Option.some.injEq] at hb
      subst hb
      obtain ⟨x, y, z, v, hi⟩ := hM.iter
      rw [h3] at hi
      cases hi
  have hfv : ∃ fa fc, e.free = .slice fa fl.length fc := by
    rcases hF.shape with ⟨h, h0⟩ | ⟨b, c, h, _⟩
    · exact ⟨_, _, by rw [h, h0]⟩
    · exact ⟨_, _, h⟩
  obtain ⟨fa, fc, hfv⟩ := hfv
  have HFR := hid hfv
  unfold kv
  rw [show ((1 : Nat) : Int) = 1 from rfl]
  clear hrow hE hbits hW hM hF hfv
  go_enter Yba.func41, Yba.ntmps41
  go_upto_block 0 with (go_at_call 40; refine HROW.out.mono ?_; rintro y w2 ⟨rfl, q, rfl⟩)
  go_cut [7, 12] from 12 to 18 (fun _ _ wx => (w.alloc (.cells #[.int .u64 (r : Int), .int .u64 1] 59)).drewN q = wx)
  case first =>
    go_wp2_with fail
    go_loopw [12, 7] (fun i _ wr => ∃ k : Nat, k ≤ 1 ∧ i = .int .i64 k ∧ (w.alloc (.cells #[.int .u64 (r : Int), .int .u64 1] 59)).drewN q = wr) (fun i _ _ => 1 - (intOf i).toNat)
    case atStart => exact ⟨0, by omega, rfl, rfl⟩
    case round =>
      obtain ⟨k, hk, rfl, rfl⟩ := hrel
      rcases (show k = 0 ∨ k = 1 by omega) with rfl | rfl
      · rw [show ((0 : Nat) : Int) = 0 from rfl]
        go_wp2
        go_roundw
        case rel => exact ⟨1, by omega, by go_num, trivial⟩
        case measure => simp [intOf]
      · rw [show ((1 : Nat) : Int) = 1 from rfl]
        go_wp2
        go_meet
        rfl
  case rest =>
    obtain rfl := hcut
    go_upto_region 6 with fail
    refine wp_gen (fun w2 hw2 => ?_)
    have hE2 : E w2 eb e := by rw [hw2]; exact World.rowIs.alloc HE.out _
    have hM2 : RX w2 Yba.prog 59 e.rm it N (fun i => kv i 1) V M L c := by rw [hw2]; exact HM.out.alloc _
    have hF2 : Vec w2 B 3 1 e.free fl.length (lf fl) := by rw [hw2]; exact HF.out.alloc _
    have hK2 : w2.rowIs w.heap.size 59 2 (fun i => if i = 0 then .int .u64 (r : Int) else .int .u64 1) := by
      rw [hw2]
      exact ⟨_, Deep.blk_alloc_new _ _, rfl, fun i hi => by rcases i with _ | _ | i <;> first | rfl | omega⟩
    have hk2 : Kept (eb :: e.rm :: e.free.ownBlock.toList) w w2 := by rw [hw2]; exact ((Kept.refl _ w).alloc _).drewN _
    clear hw2
    obtain ⟨w3, c3, hdel, hM3, hc3, hgr3⟩ := RX.drop (w := w2.drew) k59 Yba.underlying45 (e := 3) hM2 hr (key := kv r 1) rfl 0
    unfold kv at hdel
    rw [show ((1 : Nat) : Int) = 1 from rfl] at hdel
    have d5 := hE2.c5
    have k0 : w2.cell? ⟨w.heap.size, 0, none⟩ = some (.int .u64 (r : Int)) := hK2.cell (i := 0) (by omega)
    have k1 : w2.cell? ⟨w.heap.size, 1, none⟩ = some (.int .u64 1) := hK2.cell (i := 1) (by omega)
    have hnrm : e.rm ≠ eb := ix_ne HM.out.ix HE.out
    have hnf : e.free.ownBlock ≠ some e.rm := ix_vec HM.out.ix HF.out
    have hne : e.free.ownBlock ≠ some eb := vec_ne HF.out HE.out (by decide)
    have hE3 : E w3 eb e := rowIs_grown (w := w2.drew) hE2 hgr3 (fun h => hnrm (by simpa using h.symm))
    have hF3 : Vec w3 B 3 1 e.free fl.length (lf fl) := Vec.kept (w := w2.drew) hF2 hgr3 (.inr hnf)
    have hk3 : Kept (eb :: e.rm :: e.free.ownBlock.toList) w w3 := (hk2.drew).grown hgr3 (fun k hk => .inl (by simp at hk; simp [hk]))
    clear hE2 hM2 hF2 hK2 hk2 hgr3
    have c7 : w3.cell? ⟨eb, 7, none⟩ = some e.free := hE3.c7
    obtain ⟨b4, cap4, w4, hap, hV4, hgr4, hat4, _⟩ := run_append_vec Yba.prog (w3.alloc (.cells #[.int .i64 (r : Int)] 3)) B 22 22 3 _ 1 8 Yba.underlying22 info3 rfl (by decide) e.free fl.length _ (hF3.alloc _) ⟨w3.heap.size, 0, none⟩ 1 1 (by decide) (fun _ => .int .i64 (r : Int)) (lf (fl ++ [r]))
      (fun j hj => by (obtain rfl : j = 0 := by omega); rw [add_zero_plain]; simp) (fun _ _ => rfl) (fun j hj => lf_app (by omega)) (fun j hj => by (obtain rfl : j = 0 := by omega); rw [Nat.mul_one, Nat.add_zero]; exact lf_last) (by unfold maxLen; omega) (by omega) (by rw [Deep.nblk_alloc]; have := hk3.size; omega)
    have hE4 : E w4 eb e := rowIs_grown (World.rowIs.alloc hE3 _) hgr4 (fun h => hne h.symm)
    have hM4 : RX w4 Yba.prog 59 e.rm it N (fun i => kv i 1) V (fun j => M j && !decide (j = r)) (fun j => L j && !decide (j = r)) c3 :=
      (hM3.alloc _).of_blocks (hgr4.block _ (by rw [Deep.nblk_alloc]; have := hM3.ix.lt; omega) (fun h => hnf h.symm)) (hgr4.block _ (by rw [Deep.nblk_alloc]; have := hM3.lt; omega) (fun h => hnif h.symm))
    have hk4 : Kept (eb :: e.rm :: e.free.ownBlock.toList) w w4 := (hk3.alloc _).grown hgr4 (fun k hk => .inl (by simp [hk]))
    have hs3 := hk3.size
    have hb4 : b4 ≠ eb := by
      have h2 := World.rowIs.lt hE3
      rcases hat4 with h | h
      · exact fun e => hne (by rw [h, e])
      · rw [Deep.nblk_alloc] at h
        omega
    have hat5 : e.free.ownBlock = some b4 ∨ w.heap.size ≤ b4 := by
      rcases hat4 with h | h
      · exact .inl h
      · rw [Deep.nblk_alloc] at h
        exact .inr (by omega)
    have g7 := hE4.fz 7
    have e7 := hE4.c7
    have hlt3 : eb < w3.heap.size := World.rowIs.lt hE3
    rw [HFR.out] at c7 hap
    have HAP := hid hap
    have HE4 := hid hE4
    have HV4 := hid hV4
    have HM4 := hid hM4
    have HK4 := hid hk4
    clear hap hE4 hV4 hM4 hk4 hE3 hF3 hk3 hM3 hgr4 hat4 hs3
    go_region
    go_wp2_with (at_builtin; refine wpList_append_run rfl (.tmp 28) (.tmp 30) 22 22 rfl rfl rfl rfl HAP.out ?_)
    go_end0
    exact ⟨rfl, b4, cap4, c3, E.free HE4.out _, vec_set HV4.out (fun h => hb4 (by simpa [Value.ownBlock] using h)) _, HM4.out.of_blocks (Deep.blk_setCell_other _ _ _ _ hnrm) (Deep.blk_setCell_other _ _ _ _ hnit), hc3, hat5, HK4.out.setCell (.inl (by simp)) _⟩
end Go.Proofs.Ybulkgbai
