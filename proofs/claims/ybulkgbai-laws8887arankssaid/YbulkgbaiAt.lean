import Derived.Test.YbulkgbaiChange
import Derived.Test.YbulkgbaiRanks
import Derived.Test.YbulkgbaiShelf
import Derived.Deep.CutRange
namespace Go.Proofs.Ybulkgbai
open Go.RowKit Go.Zz Go.Zz.Fen

theorem count_any (S : Nat) (v : Value) (m : Int) (w : World) (hR : w.rowIs S 26 2 (rkF v m)) : Calls Yba.prog 12 #[.pointer (some ⟨S, 0, none⟩)] w fun e w' => e = .returned (.int .i64 m) ∧ w' = w := by
  have c1 := rk_c1 hR
  go_enter Yba.func12, Yba.ntmps12
  go_wp2
  go_ret
  exact ⟨rfl, rfl⟩

set_option maxHeartbeats 400000 in
theorem at_any (S B : Nat) (v : Value) (n t : Nat) (M : Nat → Bool) (m : Int) (w : World) (hn : n ≤ 65536) (ht : t < n) (hM : M t = true) (hR : w.rowIs S 26 2 (rkF v m)) (hV : Vec w B 3 1 v (n + 1) (fun j => .int .i64 (sumF M j))) :
    Calls Yba.prog 11 #[.pointer (some ⟨S, 0, none⟩), .int .i64 (cnt M t : Int)] w fun e w' => e = .returned (.int .i64 (t : Int)) ∧ w' = w := by
  obtain ⟨b, cap, rfl⟩ : ∃ b cap, v = .slice (some ⟨b, 0, none⟩) (n + 1) cap := by
    rcases hV.shape with ⟨_, h⟩ | ⟨b, cap, rfl, _⟩
    · omega
    · exact ⟨_, _, rfl⟩
  have c0 := rk_c0 hR
  have hcell : ∀ j, j < n + 1 → w.cell? ⟨b, j, none⟩ = some (.int .i64 (sumF M j)) := fun j hj => hV.cell (by omega)
  have HC := hid hcell
  clear hcell
  obtain ⟨b0, b1, b2⟩ := bitLen_bounds n (by omega) (by omega)
  obtain ⟨L, hL⟩ : ∃ L, Lib.bitLen n = L + 1 := ⟨Lib.bitLen n - 1, by omega⟩
  rw [hL, Nat.add_sub_cancel] at b1
  rw [hL] at b2
  have hL17 : L ≤ 16 := by
    rcases Nat.lt_or_ge 16 L with h | h
    · have : 2 ^ 17 ≤ 2 ^ L := Nat.pow_le_pow_right (by omega) h
      omega
    · exact h
  have hlen := fun wx => Yba.bits_Len (n : Int) wx (by omega) (by omega)
  simp only [Int.toNat_natCast, hL] at hlen
  go_enter Yba.func11, Yba.ntmps11
  go_wp2_with (go_at_call 19; refine (hlen _).mono ?_; rintro e w' ⟨rfl, hw'⟩; rw [hw']; clear hw')
  have est : wrap64 (2 ^ (L + 1)) / 2 = ((2 ^ L : Nat) : Int) := by
    have h1 : ((2 : Int) ^ (L + 1)) = ((2 ^ L : Nat) : Int) * 2 := by rw [Int.pow_succ, Int.natCast_pow]; rfl
    have h2 : 2 ^ L ≤ 2 ^ 16 := Nat.pow_le_pow_right (by omega) hL17
    rw [h1]
    generalize 2 ^ L = x at *
    unfold wrap64
    omega
  have hLn : 2 ^ (L + 1) = 2 * 2 ^ L := by rw [Nat.pow_succ, Nat.mul_comm]
  clear hlen hL
  go_loop [1, 5, 6] (fun kk ii ss => ∃ i st : Nat, ii = .int .i64 i ∧ ss = .int .i64 st ∧ kk = .int .i64 ((cnt M t : Int) - (cnt M i : Int)) ∧ i ≤ t ∧ st ≤ 65536 ∧ Hid ((st = 0 ∧ i = t) ∨ ∃ a m, st = 2 ^ a ∧ i = 2 ^ (a + 1) * m ∧ t < i + 2 ^ (a + 1))) (fun _ _ ss => (intOf ss).toNat)
  case atStart => exact ⟨0, 2 ^ L, rfl, by rw [est], by simp [cnt], by omega, by omega, .inr ⟨L, 0, rfl, by simp, by omega⟩⟩
  case round =>
    obtain ⟨i, st, rfl, rfl, rfl, hit', hst, HI⟩ := hrel
    have hci := cnt_mono M hit'
    have hct := cnt_le M t
    clear est
    by_cases h0 : st = 0
    · subst h0
      have hi : i = t := by
        rcases HI.out with ⟨_, h⟩ | ⟨a, m, h, _⟩
        · exact h
        · have := Nat.two_pow_pos a; omega
      go_wp2
      go_ret
      exact ⟨rfl, rfl⟩
    · obtain ⟨a, m, HA⟩ : ∃ a m, Hid (st = 2 ^ a ∧ i = 2 ^ (a + 1) * m ∧ t < i + 2 * st) := by
        rcases HI.out with ⟨h, _⟩ | ⟨a, m, h1, h2, h3⟩
        · omega
        · exact ⟨a, m, h1, h2, by rw [Nat.pow_succ] at h3; omega⟩
      clear HI
      have hsum : sumF M (i + st) = (cnt M (i + st) : Int) - (cnt M i : Int) := by
        obtain ⟨h1, h2, _⟩ := HA.out
        rw [h1, h2]; exact sum_step M a m
      have hiff := cnt_le_iff M t (i + st) hM
      have hb := sum_bounds M (i + st)
      have HS := hid hsum
      have hst0 : 0 < st := by omega
      have hnext : ∀ i' : Nat, t < i' + st → i' ≤ t → (i' = i ∨ i' = i + st) → Hid ((st / 2 = 0 ∧ i' = t) ∨ ∃ a m, st / 2 = 2 ^ a ∧ i' = 2 ^ (a + 1) * m ∧ t < i' + 2 ^ (a + 1)) := by
        intro i' h1 h2 h3
        obtain ⟨e1, e2, e3⟩ := HA.out
        cases a with
        | zero =>
          left
          simp at e1
          omega
        | succ a =>
          right
          rw [Nat.pow_succ] at e1
          refine ⟨a, if i' = i then 2 * m else 2 * m + 1, by omega, ?_, by rw [Nat.pow_succ]; omega⟩
          have e4 : i = 2 ^ (a + 1) * (2 * m) := by rw [e2, Nat.pow_succ 2 (a + 1), Nat.mul_assoc]
          rcases h3 with h3 | h3
          · rw [if_pos h3, h3, e4]
          · rw [if_neg (by omega), h3, Nat.mul_add, Nat.mul_one, ← e4, Nat.pow_succ]; omega
      have HNX := hid hnext
      clear hsum hnext
      by_cases hle : i + st ≤ t
      · have g0 := HC.out (i + st) (by omega)
        have hge : sumF M (i + st) ≤ (cnt M t : Int) - (cnt M i : Int) := by rw [HS.out]; have := hiff.2 hle; omega
        clear hiff
        go_wp2
        go_round
        case rel =>
          refine ⟨i + st, st / 2, by go_num, by go_num, ?_, hle, by omega, HNX.out (i + st) (by have := HA.out.2.2; omega) hle (.inr rfl)⟩
          rw [HS.out]
          congr 1
          omega
        case measure => simp [intOf]; omega
      · by_cases hnx : i + st < n + 1
        · have g0 := HC.out (i + st) hnx
          have hgt : ¬ sumF M (i + st) ≤ (cnt M t : Int) - (cnt M i : Int) := by
            rw [HS.out]
            intro h
            exact hle (hiff.1 (by omega))
          clear hiff
          go_wp2
          go_round
          case rel => exact ⟨i, st / 2, rfl, by go_num, rfl, hit', by omega, HNX.out i (by omega) hit' (.inl rfl)⟩
          case measure => simp [intOf]; omega
        · clear hiff
          go_wp2
          go_round
          case rel => exact ⟨i, st / 2, rfl, by go_num, rfl, hit', by omega, HNX.out i (by omega) hit' (.inl rfl)⟩
          case measure => simp [intOf]; omega

end Go.Proofs.Ybulkgbai
