import Derived.Test.YbulkgbaiRows
import Derived.Test.YbulkgbaiBase
import Derived.Test.YbulkgbaiLow
namespace Go.Proofs.Ybulkgbai
open Go.RowKit Go.Zz Go.Zz.Fen

set_option maxHeartbeats 400000 in
theorem low_any (j : Nat) (w : World) (h0 : 0 < j) (h1 : j ≤ 1048576) : Calls Yba.prog 7 #[.int .i64 (j : Int)] w fun e w' => e = .returned (.int .i64 (low j : Int)) ∧ w' = w := by
  go_enter Yba.func7, Yba.ntmps7
  go_wp2
  go_loop [3] (fun l => ∃ a p m : Nat, l = .int .i64 p ∧ p = 2 ^ a ∧ j = p * m ∧ 0 < p ∧ p ≤ j) (fun l => j - (intOf l).toNat)
  case atStart => exact ⟨0, 1, j, rfl, rfl, by simp, by omega, by omega⟩
  case round =>
    obtain ⟨a, p, m, rfl, hp, hj, hp0, hpj⟩ := hrel
    have HP : Hid (p = 2 ^ a ∧ j = p * m) := ⟨hp, hj⟩
    clear hp hj
    have ec : ((j : Int) % (2 * (p : Int))) = ((j % (2 * p) : Nat) : Int) := by rw [Int.natCast_emod, Int.natCast_mul]; rfl
    have HE := hid ec
    clear ec
    by_cases hm : j % (2 * p) = 0
    · have hm' : ((j : Int) % (2 * (p : Int)) == 0) = true := by rw [HE.out, hm]; rfl
      have hq : 2 * p ≤ j := by
        have := Nat.div_add_mod j (2 * p)
        rw [hm] at this
        rcases Nat.eq_zero_or_pos (j / (2 * p)) with h | h
        · rw [h] at this; omega
        · have : 2 * p * 1 ≤ 2 * p * (j / (2 * p)) := Nat.mul_le_mul_left _ h
          omega
      go_wp2
      go_round
      case rel =>
        obtain ⟨rfl, hj⟩ := HP.out
        obtain ⟨q, hq1, hq2⟩ := double_go j a m hj hm
        exact ⟨a + 1, 2 ^ a * 2, q, by go_num, by rw [Nat.pow_succ], by rw [hq1, Nat.pow_succ], by omega, by omega⟩
      case measure => simp [intOf]; omega
    · have hm' : ((j : Int) % (2 * (p : Int)) == 0) = false := by rw [HE.out]; exact beq_eq_false_iff_ne.2 (by omega)
      go_wp2
      go_ret
      obtain ⟨rfl, hj⟩ := HP.out
      have hm0 : 0 < m := by
        rcases Nat.eq_zero_or_pos m with h | h
        · subst h; omega
        · exact h
      exact ⟨ret_int (by rw [double_stop j a m hj hm0 hm]), rfl⟩

/-- the two cells of a 'ranked': its sums, its members -/
def rkF (v : Value) (m : Int) : Nat → Value := fun j => if j = 0 then v else .int .i64 m
theorem rk_c0 {w : World} {S : Nat} {v : Value} {m : Int} (h : w.rowIs S 26 2 (rkF v m)) : w.cell? ⟨S, 0, none⟩ = some v := by rw [h.cell (by omega)]; simp [rkF]
theorem rk_c1 {w : World} {S : Nat} {v : Value} {m : Int} (h : w.rowIs S 26 2 (rkF v m)) : w.cell? ⟨S, 1, none⟩ = some (.int .i64 m) := by rw [h.cell (by omega)]; simp [rkF]
theorem rk_start (w : World) (v : Value) (m : Int) : (w.alloc (.cells #[v, .int .i64 m] 26)).rowIs w.heap.size 26 2 (rkF v m) := by
  refine World.rowIs_alloc w _ _ _ fun i hi => ?_
  have : i = 0 ∨ i = 1 := by simp at hi; omega
  rcases this with rfl | rfl <;> simp [rkF]
theorem rk_set0 {w : World} {S : Nat} {v : Value} {m : Int} (h : w.rowIs S 26 2 (rkF v m)) (u : Value) : (w.setCell ⟨S, 0, none⟩ u).rowIs S 26 2 (rkF u m) := by
  refine (h.set 0 u).congr fun i hi => ?_
  have : i = 0 ∨ i = 1 := by omega
  rcases this with rfl | rfl <;> simp [rkF]
theorem rk_set1 {w : World} {S : Nat} {v : Value} {m : Int} (h : w.rowIs S 26 2 (rkF v m)) (u : Int) : (w.setCell ⟨S, 1, none⟩ (.int .i64 u)).rowIs S 26 2 (rkF v u) := by
  refine (h.set 1 _).congr fun i hi => ?_
  have : i = 0 ∨ i = 1 := by omega
  rcases this with rfl | rfl <;> simp [rkF]

/-- the sums behind change(p, by), as far as the road has come: those below i -/
def chF (F : Nat → Int) (p : Nat) (by' : Int) (i : Nat) : Nat → Value := fun j => .int .i64 (if hit p j = true ∧ j < i then wrap64 (F j + by') else F j)

set_option maxHeartbeats 400000 in
theorem change_any (S B : Nat) (v : Value) (n p : Nat) (F : Nat → Int) (m by' : Int) (w : World) (hn : n ≤ 1048577) (hp : p ≤ 1048578) (hR : w.rowIs S 26 2 (rkF v m)) (hV : Vec w B 3 1 v n (fun j => .int .i64 (F j))) (hne : v.ownBlock ≠ some S) :
    Calls Yba.prog 6 #[.pointer (some ⟨S, 0, none⟩), .int .i64 (p : Int), .int .i64 by'] w fun e w' => e = .returned (.tuple #[]) ∧
      Vec w' B 3 1 v n (fun j => .int .i64 (if hit p j = true then wrap64 (F j + by') else F j)) ∧ w'.rowIs S 26 2 (rkF v (wrap64 (m + by'))) ∧ Kept (S :: v.ownBlock.toList) w w' ∧ w'.heap.size = w.heap.size := by
  obtain ⟨ao, cap, rfl⟩ : ∃ ao cap, v = .slice ao n cap := by
    rcases hV.shape with ⟨rfl, rfl⟩ | ⟨b, cap, rfl, _⟩
    · exact ⟨none, 0, rfl⟩
    · exact ⟨_, _, rfl⟩
  go_enter Yba.func6, Yba.ntmps6
  go_wp2
  go_loopw [6] (fun i wr => ∃ k : Nat, i = .int .i64 k ∧ hit p k = true ∧ k ≤ 4194304 ∧ wr.rowIs S 26 2 (rkF (.slice ao n cap) m) ∧ Vec wr B 3 1 (.slice ao n cap) n (chF F p by' k) ∧ Kept (S :: (Value.slice ao n cap).ownBlock.toList) w wr ∧ wr.heap.size = w.heap.size) (fun i _ => n - (intOf i).toNat)
  case atStart =>
    refine ⟨p + 1, by go_num, hit_start p, by omega, hR, hV.congr fun j _ => ?_, Kept.refl _ _, rfl⟩
    by_cases h : hit p j = true ∧ j < p + 1
    · have := hit_before p j h.2; rw [this] at h; simp at h
    · simp only [chF, if_neg h]
  case round =>
    obtain ⟨k, rfl, hh, hk, hR', hV', hK, hz⟩ := hrel
    have HH := hid hh
    clear hh
    have c0 := rk_c0 hR'
    have hlo := low_le k (by have := of_decide_eq_true HH.out; omega)
    have hlp := low_pos k (by have := of_decide_eq_true HH.out; omega)
    have hk0 : 0 < k := by have := of_decide_eq_true HH.out; omega
    by_cases hkn : k < n
    · rcases hV'.shape with ⟨h1, h2⟩ | ⟨b, cap', h1, hBb, hlt, hnc, hcm⟩
      · omega
      simp only [Value.slice.injEq, true_and] at h1
      obtain ⟨rfl, rfl⟩ := h1
      have g0 := hV'.cell (j := k) (by omega)
      have f0 := hV'.frozen k
      have e0 : chF F p by' k k = .int .i64 (F k) := by simp [chF]
      rw [e0] at g0
      clear e0
      have hbl := bits_low k hk0 (by omega)
      have hne' : b ≠ S := by simpa [Value.ownBlock] using hne
      go_wp2
      go_roundw
      case rel =>
        refine ⟨k + low k, by go_num, hit_next p k HH.out, by omega, hR'.setOther (by simpa using hne'.symm) _, (hV'.set k _).congr fun j hj => ?_, hK.setCell (.inl (by simp [Value.ownBlock])) _, by simpa using hz⟩
        by_cases e : j = k
        · subst e
          simp [chF, HH.out, hlp]
        · simp only [if_neg e, chF]
          by_cases h : hit p j = true ∧ j < k
          · rw [if_pos h, if_pos ⟨h.1, by omega⟩]
          · rw [if_neg h]
            by_cases h' : hit p j = true ∧ j < k + low k
            · exfalso
              have h2 := hit_between p k j HH.out (by have h4 : ¬ j < k := fun h5 => h ⟨h'.1, h5⟩; omega) h'.2
              rw [h2] at h'
              simp at h'
            · rw [if_neg h']
      case measure => simp [intOf]; omega
    · have c1 := rk_c1 hR'
      have f1 := hR'.frozen 1
      go_wp2
      go_end0
      refine ⟨rfl, ?_, rk_set1 hR' _, hK.setCell (.inl (by simp)) _, by simpa using hz⟩
      have hset : Vec (wr.setCell ⟨S, 1, none⟩ (.int .i64 (wrap64 (m + by')))) B 3 1 (.slice ao n cap) n (chF F p by' k) := by
        rcases hV'.shape with ⟨h1, h2⟩ | ⟨b, cap', h1, _⟩
        · rw [h1] at hV' ⊢
          subst h2
          exact Vec.nil _ _ _ _ _
        · rw [h1] at hV' hne ⊢
          exact hV'.setOther (by simpa [Value.ownBlock] using hne) _
      refine hset.congr fun j hj => ?_
      simp only [chF]
      by_cases h : hit p j = true
      · rw [if_pos ⟨h, by omega⟩, if_pos h]
      · rw [if_neg (fun h' => h h'.1), if_neg h]

end Go.Proofs.Ybulkgbai
