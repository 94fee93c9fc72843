import Derived.Test.YbulkgbaiAt
namespace Go.Proofs.Ybulkgbai
open Go.RowKit Go.Zz Go.Zz.Fen

theorem Yba.infoI : (Yba.prog.info? 3).map (fun i => (i.zero, i.size, i.bytes)) = some (some (.int .i64 0), 1, 8) := by kernel_rfl

/-- add, remove: 'change' by 1, by -1 -/
theorem add_any (S B : Nat) (v : Value) (n p : Nat) (F : Nat → Int) (m : Int) (w : World) (hn : n ≤ 1048577) (hp : p ≤ 1048578) (hR : w.rowIs S 26 2 (rkF v m)) (hV : Vec w B 3 1 v n (fun j => .int .i64 (F j))) (hne : v.ownBlock ≠ some S) :
    Calls Yba.prog 9 #[.pointer (some ⟨S, 0, none⟩), .int .i64 (p : Int)] w fun e w' => e = .returned (.tuple #[]) ∧
      Vec w' B 3 1 v n (fun j => .int .i64 (if hit p j = true then wrap64 (F j + 1) else F j)) ∧ w'.rowIs S 26 2 (rkF v (wrap64 (m + 1))) ∧ Kept (S :: v.ownBlock.toList) w w' ∧ w'.heap.size = w.heap.size := by
  have h := change_any S B v n p F m 1 w hn hp hR hV hne
  go_enter Yba.func9, Yba.ntmps9
  go_wp2_with (go_at_call 6; refine h.mono ?_; rintro e w5 ⟨rfl, hV5, hR5, hK5, hz5⟩)
  go_end0
  exact ⟨rfl, hV5, hR5, hK5, hz5⟩

theorem remove_any (S B : Nat) (v : Value) (n p : Nat) (F : Nat → Int) (m : Int) (w : World) (hn : n ≤ 1048577) (hp : p ≤ 1048578) (hR : w.rowIs S 26 2 (rkF v m)) (hV : Vec w B 3 1 v n (fun j => .int .i64 (F j))) (hne : v.ownBlock ≠ some S) :
    Calls Yba.prog 10 #[.pointer (some ⟨S, 0, none⟩), .int .i64 (p : Int)] w fun e w' => e = .returned (.tuple #[]) ∧
      Vec w' B 3 1 v n (fun j => .int .i64 (if hit p j = true then wrap64 (F j + -1) else F j)) ∧ w'.rowIs S 26 2 (rkF v (wrap64 (m + -1))) ∧ Kept (S :: v.ownBlock.toList) w w' ∧ w'.heap.size = w.heap.size := by
  have h := change_any S B v n p F m (-1) w hn hp hR hV hne
  go_enter Yba.func10, Yba.ntmps10
  go_wp2_with (go_at_call 6; refine h.mono ?_; rintro e w5 ⟨rfl, hV5, hR5, hK5, hz5⟩)
  go_end0
  exact ⟨rfl, hV5, hR5, hK5, hz5⟩

/-- the length behind 'grow' -/
def gl (n : Nat) : Nat := if n = 0 then 2 else n + 1

set_option maxHeartbeats 400000 in
theorem grow_any (S B : Nat) (v : Value) (n : Nat) (m : Int) (w : World) (hn : n ≤ 65537) (hB : B ≤ w.heap.size) (hBS : B ≤ S) (hR : w.rowIs S 26 2 (rkF v m)) (hV : Vec w B 3 1 v n (fun _ => .int .i64 0)) (hne : v.ownBlock ≠ some S) :
    Calls Yba.prog 8 #[.pointer (some ⟨S, 0, none⟩)] w fun e w' => e = .returned (.tuple #[]) ∧
      ∃ v', Vec w' B 3 1 v' (gl n) (fun _ => .int .i64 0) ∧ w'.rowIs S 26 2 (rkF v' m) ∧ v'.ownBlock ≠ some S ∧ Below B w w' := by
  obtain ⟨ao, cap, rfl⟩ : ∃ ao cap, v = .slice ao n cap := by
    rcases hV.shape with ⟨rfl, rfl⟩ | ⟨b, cap, rfl, _⟩
    · exact ⟨none, 0, rfl⟩
    · exact ⟨_, _, rfl⟩
  have c0 := rk_c0 hR
  have hlt := hR.lt
  obtain ⟨n1, hn1⟩ : ∃ n1, n1 = if n = 0 then 1 else n := ⟨_, rfl⟩
  have HN1 := hid hn1
  have hn10 : 0 < n1 := by rw [hn1]; split <;> omega
  have hn1b : n1 ≤ 65537 := by rw [hn1]; split <;> omega
  clear hn1
  go_enter Yba.func8, Yba.ntmps8
  go_upto_if 10 with fail
  go_cut [] from 5 to 14 (fun wx => ∃ b1 cap1, Vec wx B 3 1 (.slice (some ⟨b1, 0, none⟩) n1 cap1) n1 (fun _ => .int .i64 0) ∧ wx.rowIs S 26 2 (rkF (.slice (some ⟨b1, 0, none⟩) n1 cap1) m) ∧ b1 ≠ S ∧ Below B w wx)
  case first =>
    by_cases h0 : n = 0
    · have h0' : ((n : Int) == 0) = true := beq_iff_eq.2 (by omega)
      have f0 := hR.frozen 0
      have e1 := HN1.out
      rw [if_pos h0] at e1
      have HE := hid e1
      clear e1 h0
      go_wp2
      go_meet
      case rel =>
        obtain rfl := HE.out
        refine ⟨w.heap.size, 1, ?_, (rk_set0 hR _).alloc _, by omega, (((Below.refl _ _).setCell (by simpa using hBS) _)).alloc (by simpa using hB) _⟩
        have h1 : ((w.setCell ⟨S, 0, none⟩ (.slice (some ⟨w.heap.size, 0, none⟩) 1 1)).alloc (.cells #[.int .i64 0] 3)).rowIs w.heap.size 3 (1 * 1) (fun _ => .int .i64 0) := by
          have := World.rowIs_alloc (w.setCell ⟨S, 0, none⟩ (.slice (some ⟨w.heap.size, 0, none⟩) 1 1)) #[.int .i64 0] 3 (fun _ => .int .i64 0) (fun i hi => by
            have : i = 0 := by simp at hi; omega
            subst this; rfl)
          rw [World.size_setCell] at this
          exact this
        exact Vec.of_row h1 hB (by unfold maxLen; omega)
    · have h0' : ((n : Int) == 0) = false := beq_eq_false_iff_ne.2 (by omega)
      have e1 := HN1.out
      rw [if_neg h0] at e1
      have HE := hid e1
      clear e1
      go_wp2
      go_meet
      case rel =>
        obtain rfl := HE.out
        rcases hV.shape with ⟨_, h⟩ | ⟨b, cap', h, _⟩
        · omega
        · simp only [Value.slice.injEq, true_and] at h
          obtain ⟨rfl, rfl⟩ := h
          exact ⟨b, cap, hV, hR, by simpa [Value.ownBlock] using hne, Below.refl _ _⟩
  case rest =>
    obtain ⟨b1, cap1, hV1, hR1, hb1, hbel1⟩ := hcut
    have d0 := rk_c0 hR1
    have hbl := bits_low n1 hn10 (by omega)
    have hlo := low_le n1 hn10
    have HV := hid (fun j (hj : j < n1) => hV1.cell (j := j) (by omega))
    have hz1 := hbel1.size
    go_wp2
    go_loop [3, 4] (fun ss tt => ∃ st : Nat, ss = .int .i64 0 ∧ tt = .int .i64 st ∧ 0 < st ∧ st ≤ 262144) (fun _ tt => n1 - (intOf tt).toNat)
    case atStart => exact ⟨1, rfl, rfl, by omega, by omega⟩
    case round =>
      obtain ⟨st, rfl, rfl, hs0, hs1⟩ := hrel
      by_cases hlt1 : st < low n1
      · have g0 := HV.out (n1 - st) (by omega)
        go_wp2
        go_round
        case rel => exact ⟨st * 2, rfl, by go_num, by omega, by omega⟩
        case measure => simp [intOf]; omega
      · obtain ⟨b2, cap2, w2, hap, hV2, hgr, hat, hB2⟩ := run_append_vec Yba.prog (wc.alloc (.cells #[.int .i64 0] 3)) B 22 22 3 _ 1 8 Yba.underlying22 Yba.infoI rfl (by omega) (.slice (some ⟨b1, 0, none⟩) n1 cap1) n1 (fun _ => .int .i64 0) (hV1.alloc _)
          ⟨wc.heap.size, 0, none⟩ 1 1 (by omega) (fun _ => .int .i64 0) (fun _ => .int .i64 0) (fun j hj => by
            have : j = 0 := by omega
            subst this; simp [add_zero_plain]) (fun j hj => rfl) (fun j hj => rfl) (fun j hj => rfl) (by unfold maxLen; omega) (by omega) (by simp; omega)
        have hR2 := rowIs_grown (hR1.alloc (.cells #[.int .i64 0] 3)) hgr (by simp [Value.ownBlock]; omega)
        have hltc := hR1.lt
        have hbel2 : Below B w w2 := (hbel1.alloc (by omega) _).grown hgr (by simp; omega) (fun k hk => by simp [Value.ownBlock] at hk; have := hV1.shape; rcases this with ⟨h, _⟩ | ⟨b, c, h, h', _⟩ <;> simp at h; omega)
        have hb2 : b2 ≠ S := by
          rcases hat with h | h
          · simp [Value.ownBlock] at h; omega
          · rw [h, World.size_alloc]; omega
        have c2 := rk_c0 hR2
        have f2 := hR2.frozen 0
        have HAP := hid hap
        clear hap hgr hat
        go_wp2_with (at_builtin; refine wpList_append_run rfl (.tmp 43) (.tmp 45) 22 22 rfl rfl rfl rfl HAP.out ?_)
        go_end0
        refine ⟨rfl, .slice (some ⟨b2, 0, none⟩) (n1 + 1) cap2, ?_, rk_set0 hR2 _, by simpa [Value.ownBlock] using hb2, hbel2.setCell (by simpa using hBS) _⟩
        have e1 : gl n = n1 + 1 := by rw [HN1.out]; unfold gl; split <;> rfl
        rw [e1]
        exact hV2.setOther (by simpa using hb2) _

end Go.Proofs.Ybulkgbai
