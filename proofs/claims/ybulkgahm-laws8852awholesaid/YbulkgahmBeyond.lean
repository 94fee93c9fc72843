import Derived.Test.YbulkgahmRows
import Derived.Test.YbulkgahmBase
import Derived.Deep.RegionHeld3
namespace Go.Proofs.Ybulkgahm
open Go.RowKit Go.Zz

theorem locking_any (k : Int) (w : World) : Calls Yba.prog 7 #[.int .u8 k] w fun e w' => e = .returned (.bool (decide (4 ≤ k))) ∧ w' = w := by
  go_enter Yba.func7, Yba.ntmps7
  go_wp2
  go_ret
  exact ⟨rfl, rfl⟩

/-- among the first j operations, has transaction t one whose kind is below 4? -/
def hasT (K X : Nat → Int) (t : Nat) : Nat → Bool
  | 0 => false
  | j + 1 => hasT K X t j || (decide (X j = (t : Int)) && decide (K j < 4))

theorem Yba.info4 : (Yba.prog.info? 4).map (fun i => (i.zero, i.size, i.bytes)) = some (some (.bool false), 1, 1) := by kernel_rfl

theorem make4 (n : Nat) (hn : n ≤ 1048576) (wx : World) : (Instr.makeSlice 38 (.int .i64 (n : Int)) (.int .i64 (n : Int))).run Yba.prog wx = .ok (.slice (some ⟨wx.heap.size, 0, none⟩) n n) (wx.alloc (.cells (madeCells #[.bool false] n) 4)) := by
  have h := run_make_any Yba.prog 38 4 _ _ 1 1 Yba.underlying38 Yba.info4 rfl n (by omega) (by omega) wx
  rwa [Nat.mul_one] at h

theorem has_start (w : World) (K X : Nat → Int) (n : Nat) : (w.alloc (.cells (madeCells #[.bool false] n) 4)).rowIs w.heap.size 4 n (fun t => .bool (hasT K X t 0)) := by
  refine (rowIs_madeN w #[.bool false] n 4).congr fun j hj => ?_
  simp [hasT, Nat.mod_one]

theorem has_step {wr : World} {B n k x : Nat} {K X : Nat → Int} (h : wr.rowIs B 4 n (fun t => .bool (hasT K X t k))) (hx : X k = (x : Int)) (b : Bool) (hb : b = (hasT K X x k || !decide (4 ≤ K k))) (o : Obj) :
    (((wr.setCell ⟨B, x, none⟩ (.bool b)).alloc o).drew).rowIs B 4 n (fun t => .bool (hasT K X t (k + 1))) := by
  refine (((h.set x _).alloc o).drew).congr fun j hj => ?_
  by_cases e : j = x
  · subst e
    have e2 : (!decide (4 ≤ K k)) = decide (K k < 4) := by
      by_cases h4 : 4 ≤ K k
      · simp [h4]
      · simp [h4]; omega
    simp [hb, hasT, hx, e2]
  · have e3 : ¬ ((x : Int) = (j : Int)) := by omega
    simp [e, hasT, hx, e3]

set_option maxHeartbeats 1000000 in
theorem beyond_any (S : Nat) (ao at2 : Option Addr) (L c n c2 ob : Nat) (K Wd X I : Nat → Int) (w : World)
    (hS : S < w.heap.size) (h1 : w.cell? ⟨S, 1, none⟩ = some (.slice ao L c)) (h2 : w.cell? ⟨S, 2, none⟩ = some (.slice at2 n c2)) (hL : L ≤ 65536) (hn : n ≤ 65536)
    (hao : 0 < L → ao = some ⟨ob, 0, none⟩ ∧ ob < w.heap.size)
    (k0 : ∀ i, i < L → w.cell? ⟨ob, i * 4, none⟩ = some (.int .u8 (K i))) (k1 : ∀ i, i < L → w.cell? ⟨ob, i * 4 + 1, none⟩ = some (.int .u8 (Wd i)))
    (k2 : ∀ i, i < L → w.cell? ⟨ob, i * 4 + 2, none⟩ = some (.int .i32 (X i))) (k3 : ∀ i, i < L → w.cell? ⟨ob, i * 4 + 3, none⟩ = some (.int .i32 (I i)))
    (hX : ∀ i, i < L → 0 ≤ X i ∧ X i < n) :
    Calls Yba.prog 5 #[.pointer (some ⟨S, 0, none⟩)] w fun e w' => e = .returned (.slice (some ⟨w.heap.size, 0, none⟩) n n) ∧ w'.rowIs w.heap.size 4 n (fun t => .bool (hasT K X t L)) ∧ Below w.heap.size w w' := by
  have hmk := make4 n (by omega)
  have HA : Hid (0 < L → ao = some ⟨ob, 0, none⟩ ∧ ob < w.heap.size) := hao
  have H0 : Hid (∀ i, i < L → w.cell? ⟨ob, i * 4, none⟩ = some (.int .u8 (K i))) := k0
  have H1 : Hid (∀ i, i < L → w.cell? ⟨ob, i * 4 + 1, none⟩ = some (.int .u8 (Wd i))) := k1
  have H2 : Hid (∀ i, i < L → w.cell? ⟨ob, i * 4 + 2, none⟩ = some (.int .i32 (X i))) := k2
  have H3 : Hid (∀ i, i < L → w.cell? ⟨ob, i * 4 + 3, none⟩ = some (.int .i32 (I i))) := k3
  have HX : Hid (∀ i, i < L → 0 ≤ X i ∧ X i < n) := hX
  clear hao k0 k1 k2 k3 hX
  have hst := has_start w K X n
  have h1' : ∀ o, (w.alloc o).cell? ⟨S, 1, none⟩ = some (.slice ao L c) := fun o => (World.cell?_alloc_lt _ _ _ hS).trans h1
  go_enter Yba.func5, Yba.ntmps5
  go_wp2
  go_loopw [17] (fun i wr => ∃ k : Nat, k ≤ L ∧ i = .int .i64 k ∧ wr.rowIs w.heap.size 4 n (fun t => .bool (hasT K X t k)) ∧ Below w.heap.size w wr) (fun i _ => L - (intOf i).toNat)
  case atStart => exact ⟨0, Nat.zero_le _, rfl, hst, (Below.refl _ _).alloc (Nat.le_refl _) _⟩
  case round =>
    obtain ⟨k, hk, rfl, hrow, hbel⟩ := hrel
    clear hst
    by_cases hkL : k < L
    · obtain ⟨rfl, hob⟩ := HA.out (by omega)
      have g0 := (hbel.cell (p := ⟨ob, k * 4, none⟩) hob).trans (H0.out k hkL)
      have g1 := (hbel.cell (p := ⟨ob, k * 4 + 1, none⟩) hob).trans (H1.out k hkL)
      have g2 := (hbel.cell (p := ⟨ob, k * 4 + 2, none⟩) hob).trans (H2.out k hkL)
      have g3 := (hbel.cell (p := ⟨ob, k * 4 + 3, none⟩) hob).trans (H3.out k hkL)
      obtain ⟨hx0, hxn⟩ := HX.out k hkL
      obtain ⟨x, hx⟩ := Int.eq_ofNat_of_zero_le hx0
      have Hx : Hid (X k = (x : Int)) := hx
      rw [hx] at g2 hxn
      clear hx hx0
      have hxn' : x < n := by omega
      have hlt := hrow.lt
      have c0 : ∀ o, (wr.alloc o).cell? ⟨w.heap.size, x, none⟩ = some (.bool (hasT K X x k)) := fun o => (hrow.alloc o).cell hxn'
      have f0 : ∀ o, (wr.alloc o).frozen? ⟨w.heap.size, x, none⟩ = false := fun o => (hrow.alloc o).frozen x
      by_cases hh : hasT K X x k = true
      · rw [hh] at c0
        go_wp2_with fail
        go_big_region
        go_wp2
        go_roundw
        case rel => exact ⟨k + 1, by omega, by go_num, has_step hrow Hx.out true (by rw [hh]; simp) _, ((hbel.setCell (by simp) _).alloc (by simp; omega) _).drew⟩
        case measure => simp [intOf]; omega
      · have hh' : hasT K X x k = false := by simpa using hh
        rw [hh'] at c0
        go_wp2_with fail
        go_region_with (go_at_call 7; refine (locking_any _ _).mono ?_; rintro e w' ⟨rfl, hw⟩; rw [hw]; clear hw)
        all_goals
          go_wp2
          go_roundw
          case rel => exact ⟨k + 1, by omega, by go_num, has_step hrow Hx.out _ (by rw [hh']; simp) _, ((hbel.setCell (by simp) _).alloc (by simp; omega) _).drew⟩
          case measure => simp [intOf]; omega
    · obtain rfl : k = L := by omega
      go_wp2
      go_ret
      exact ⟨rfl, hrow, hbel⟩

end Go.Proofs.Ybulkgahm
