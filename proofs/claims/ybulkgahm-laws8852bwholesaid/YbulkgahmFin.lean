import Derived.Test.YbulkgahmRows
import Derived.Test.YbulkgahmBase
namespace Go.Proofs.Ybulkgahm
open Go.RowKit Go.Zz

/-- the last writer among the first n accesses; -2 if none writes -/
def lastW (T : Nat → Int) (W : Nat → Bool) : Nat → Int
  | 0 => -2
  | n + 1 => if W n then T n else lastW T W n

set_option maxHeartbeats 400000 in
theorem fin_any (ao : Option Addr) (b n c : Nat) (T : Nat → Int) (W : Nat → Bool) (w : World) (hn : n ≤ 1048576) (hao : 0 < n → ao = some ⟨b, 0, none⟩)
    (h0 : ∀ i, i < n → w.cell? ⟨b, i * 2, none⟩ = some (.int .i32 (T i))) (h1 : ∀ i, i < n → w.cell? ⟨b, i * 2 + 1, none⟩ = some (.bool (W i))) :
    Calls Yba.prog 6 #[.slice ao n c] w fun e w' => e = .returned (.int .i32 (lastW T W n)) ∧ w' = w := by
  have HA : Hid (0 < n → ao = some ⟨b, 0, none⟩) := hao
  clear hao
  go_enter Yba.func6, Yba.ntmps6
  go_wp2
  go_loop [3] (fun k => ∃ m : Nat, m ≤ n ∧ k = .int .i64 ((m : Int) - 1) ∧ lastW T W m = lastW T W n) (fun k => (intOf k + 1).toNat)
  case atStart => exact ⟨n, Nat.le_refl _, rfl, rfl⟩
  case round =>
    obtain ⟨m, hm, rfl, hl⟩ := hrel
    have HL : Hid (lastW T W m = lastW T W n) := hl
    clear hl
    match m, hm, HL with
    | 0, hm, HL =>
      go_wp2
      go_ret
      exact ⟨ret_int HL.out, rfl⟩
    | m + 1, hm, HL =>
      have g0 := h0 m (by omega)
      have g1 := h1 m (by omega)
      obtain rfl := HA.out (by omega)
      by_cases hW : W m = true
      · go_wp2
        go_ret
        exact ⟨ret_int (by rw [← HL.out]; simp [lastW, hW]), rfl⟩
      · have hW' : W m = false := by simpa using hW
        clear hW
        go_wp2
        go_round
        case rel => exact ⟨m, by omega, rfl, by rw [← HL.out]; simp [lastW, hW']⟩
        case measure => simp [intOf]

end Go.Proofs.Ybulkgahm
