import Derived.Test.YbulkgahmDoorFirst
namespace Go.Proofs.YbulkgahmDoor
open Go.RowKit Go.Zz

theorem mod_any (x n : Nat) (w : World) (hx : x < 4294967296) (hn0 : 0 < n) (hn : n ≤ 65536) :
    Calls Ybad.prog 6 #[.int .u32 (x : Int), .int .i64 (n : Int)] w fun e w' => e = .returned (.int .i32 ((x % n : Nat) : Int)) ∧ w' = w := by
  have hm : x % n < n := Nat.mod_lt _ hn0
  go_enter Ybad.func6, Ybad.ntmps6
  go_wp2
  go_ret
  exact ⟨ret_int (Int.natCast_emod x n).symm, rfl⟩

/-- the cells of a row of operations -/
def opF (f : Nat → OpV) : Nat → Value := fun j => match j % 4 with
  | 0 => .bool (f (j / 4)).wr
  | 1 => .int .i64 (f (j / 4)).key
  | 2 => .int .i64 (f (j / 4)).val
  | _ => .bool (f (j / 4)).nl

theorem opF0 (f : Nat → OpV) (k : Nat) : opF f (k * 4) = .bool (f k).wr := by
  unfold opF
  rw [show k * 4 % 4 = 0 by omega, show k * 4 / 4 = k by omega]
  rfl
theorem opF1 (f : Nat → OpV) (k : Nat) : opF f (k * 4 + 1) = .int .i64 (f k).key := by
  unfold opF
  rw [show (k * 4 + 1) % 4 = 1 by omega, show (k * 4 + 1) / 4 = k by omega]
  rfl
theorem opF2 (f : Nat → OpV) (k : Nat) : opF f (k * 4 + 2) = .int .i64 (f k).val := by
  unfold opF
  rw [show (k * 4 + 2) % 4 = 2 by omega, show (k * 4 + 2) / 4 = k by omega]
  rfl
theorem opF3 (f : Nat → OpV) (k : Nat) : opF f (k * 4 + 3) = .bool (f k).nl := by
  unfold opF
  rw [show (k * 4 + 3) % 4 = 3 by omega, show (k * 4 + 3) / 4 = k by omega]
  rfl

set_option maxHeartbeats 1000000 in
/-- slices.Equal over operations: two rows that hold the same -/
theorem equalOp_any (a b m c d : Nat) (f : Nat → OpV) (w : World) (hm : m ≤ 1048576) (ha : ∀ j, j < m * 4 → w.cell? ⟨a, j, none⟩ = some (opF f j)) (hb : ∀ j, j < m * 4 → w.cell? ⟨b, j, none⟩ = some (opF f j)) :
    Calls Ybad.prog 16 #[.slice (some ⟨a, 0, none⟩) m c, .slice (some ⟨b, 0, none⟩) m d] w fun e w' => e = .returned (.bool true) ∧ ∃ q, w' = w.drewN q := by
  have HA := hid ha
  have HB := hid hb
  clear ha hb
  go_enter Ybad.func16, Ybad.ntmps16
  go_wp2
  go_loopw [13, 5] (fun i _ wr => ∃ k s : Nat, k ≤ m ∧ i = .int .i64 k ∧ wr = w.drewN s) (fun i _ _ => m - (intOf i).toNat)
  case atStart => exact ⟨0, 0, by omega, rfl, rfl⟩
  case round =>
    obtain ⟨k, s, hk, rfl, rfl⟩ := hrel
    by_cases hkm : k < m
    · have a0 := HA.out (k * 4) (by omega)
      have a1 := HA.out (k * 4 + 1) (by omega)
      have a2 := HA.out (k * 4 + 2) (by omega)
      have a3 := HA.out (k * 4 + 3) (by omega)
      have b0 := HB.out (k * 4) (by omega)
      have b1 := HB.out (k * 4 + 1) (by omega)
      have b2 := HB.out (k * 4 + 2) (by omega)
      have b3 := HB.out (k * 4 + 3) (by omega)
      rw [opF0] at a0 b0
      rw [opF1] at a1 b1
      rw [opF2] at a2 b2
      rw [opF3] at a3 b3
      go_wp2
      go_quiet (fail)
      go_wp2
      go_roundw
      case rel => exact ⟨k + 1, _, by omega, by go_num, rfl⟩
      case measure => simp [intOf]; omega
    · go_wp2
      go_ret
      exact ⟨rfl, s, rfl⟩

end Go.Proofs.YbulkgahmDoor
