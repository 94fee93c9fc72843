import Derived.Test.YbulkgahmFin
import Derived.Deep.DeepMust
namespace Go.Proofs.Ybulkgahm
open Go.RowKit Go.Zz

theorem Yba.info44 : (Yba.prog.info? 44).map (fun i => (i.zero, i.size, i.bytes)) = some (some (.agg #[.int .i32 0, .bool false]), 2, 8) := by kernel_rfl
theorem Yba.size44 : (Yba.prog.info? 44).map (·.size) = some 2 := by kernel_rfl

/-- the cells of the accesses, the first k of them filled -/
def accF (T : Nat → Int) (W : Nat → Bool) (k : Nat) : Nat → Value := fun j =>
  if j / 2 < k then (if j % 2 = 0 then .int .i32 (T (j / 2)) else .bool (W (j / 2))) else (if j % 2 = 0 then .int .i32 0 else .bool false)

theorem make44 (n : Nat) (hn : n ≤ 1048576) (wx : World) : (Instr.makeSlice 42 (.int .i64 (n : Int)) (.int .i64 (n : Int))).run Yba.prog wx = .ok (.slice (some ⟨wx.heap.size, 0, none⟩) n n) (wx.alloc (.cells (madeCells #[.int .i32 0, .bool false] (n * 2)) 44)) :=
  run_make_any Yba.prog 42 44 _ _ 2 8 Yba.underlying42 Yba.info44 rfl n (by omega) (by omega) wx

theorem acc_start (w : World) (T : Nat → Int) (W : Nat → Bool) (n : Nat) : (w.alloc (.cells (madeCells #[.int .i32 0, .bool false] (n * 2)) 44)).rowIs w.heap.size 44 (n * 2) (accF T W 0) := by
  refine (rowIs_madeN w _ _ _).congr fun j hj => ?_
  have : j % 2 = 0 ∨ j % 2 = 1 := by omega
  rcases this with h | h <;> simp [accF, h]

theorem acc_step {wr : World} {B n k : Nat} {T : Nat → Int} {W : Nat → Bool} (h : wr.rowIs B 44 (n * 2) (accF T W k)) {t : Int} {b : Bool} (ht : T k = t) (hb : W k = b) :
    ((wr.setCell ⟨B, k * 2, none⟩ (.int .i32 t)).setCell ⟨B, k * 2 + 1, none⟩ (.bool b)).rowIs B 44 (n * 2) (accF T W (k + 1)) := by
  subst ht hb
  refine ((h.set (k * 2) _).set (k * 2 + 1) _).congr fun j hj => ?_
  by_cases h1 : j = k * 2 + 1
  · subst h1
    have e1 : (k * 2 + 1) / 2 = k := by omega
    have e2 : (k * 2 + 1) % 2 = 1 := by omega
    simp [accF, e1, e2]
  · by_cases h2 : j = k * 2
    · subst h2
      have e1 : (k * 2) / 2 = k := by omega
      simp [accF, e1]
    · simp only [if_neg h1, if_neg h2]
      have e : j / 2 < k ↔ j / 2 < k + 1 := by omega
      simp only [accF, e]

theorem acc_c0 {wr : World} {B n : Nat} {T : Nat → Int} {W : Nat → Bool} (h : wr.rowIs B 44 (n * 2) (accF T W n)) (i : Nat) (hi : i < n) : wr.cell? ⟨B, i * 2, none⟩ = some (.int .i32 (T i)) := by
  rw [h.cell (by omega)]
  have e1 : (i * 2) / 2 = i := by omega
  simp [accF, e1, hi]
theorem acc_c1 {wr : World} {B n : Nat} {T : Nat → Int} {W : Nat → Bool} (h : wr.rowIs B 44 (n * 2) (accF T W n)) (i : Nat) (hi : i < n) : wr.cell? ⟨B, i * 2 + 1, none⟩ = some (.bool (W i)) := by
  rw [h.cell (by omega)]
  have e1 : (i * 2 + 1) / 2 = i := by omega
  have e2 : (i * 2 + 1) % 2 = 1 := by omega
  simp [accF, e1, e2, hi]
theorem acc_one (T : Nat → Int) (W : Nat → Bool) (k j : Nat) : (accF T W k j).oneCell' = true := by
  unfold accF; split <;> split <;> rfl

set_option maxHeartbeats 1000000 in
theorem walkB (x : Addr) (n c0 : Nat) (b off : Nat) (T : Nat → Int) (at1 : Option Addr) (m c1 : Nat) (b1 off1 : Nat) (Bs : Nat → Bool) (w : World)
    (ha0 : 0 < n → x = ⟨b, off, none⟩ ∧ b < w.heap.size) (hc0 : ∀ i, i < n → w.cell? ⟨b, off + i, none⟩ = some (.int .i32 (T i)))
    (ha1 : 0 < m → at1 = some ⟨b1, off1, none⟩ ∧ b1 < w.heap.size) (hc1 : ∀ i, i < m → w.cell? ⟨b1, off1 + i, none⟩ = some (.bool (Bs i)))
    (hn : n ≤ 1048576) (hm : m ≤ 1048576) :
    Calls Yba.prog 4 #[.slice (some x) n c0, .slice at1 m c1] w fun e w' => e = .returned (.bool true) ∧ Below w.heap.size w w' := by
  have HA0 := ha0
  have H0 : Hid (0 < n → x = ⟨b, off, none⟩ ∧ b < w.heap.size) := ha0
  have H1 : Hid (0 < m → at1 = some ⟨b1, off1, none⟩ ∧ b1 < w.heap.size) := ha1
  have HC0 : Hid (∀ i, i < n → w.cell? ⟨b, off + i, none⟩ = some (.int .i32 (T i))) := hc0
  have HC1 : Hid (∀ i, i < m → w.cell? ⟨b1, off1 + i, none⟩ = some (.bool (Bs i))) := hc1
  clear ha0 ha1 hc0 hc1 HA0
  obtain ⟨W, hW⟩ : ∃ W : Nat → Bool, W = fun i => if m = 0 then false else Bs (i % m) := ⟨_, rfl⟩
  have HW : Hid (∀ i, W i = if m = 0 then false else Bs (i % m)) := by intro i; rw [hW]
  clear hW
  have hmk := make44 n hn
  have hne := fun wx : World => run_neq_slice_nil_any (P := Yba.prog) wx 41 21 (some x) n c0 0 0 Yba.underlying41
  have hd1 : decide ((1048576 : Int) < (n : Int)) = false := decide_eq_false (by omega)
  have hd2 : decide ((1048576 : Int) < (m : Int)) = false := decide_eq_false (by omega)
  have hst := acc_start w T W n
  go_enter Yba.func4, Yba.ntmps4
  go_wp2
  go_loopw [6, 7] (fun i _ wr => ∃ k : Nat, k ≤ n ∧ i = .int .i64 k ∧ wr.rowIs w.heap.size 44 (n * 2) (accF T W k) ∧ Below w.heap.size w wr ∧ wr.heap.size = w.heap.size + 1) (fun i _ _ => n - (intOf i).toNat)
  case atStart => exact ⟨0, Nat.zero_le _, rfl, hst, (Below.refl _ _).alloc (Nat.le_refl _) _, by simp⟩
  case round =>
    obtain ⟨k, hk, rfl, hrow, hbel, hsz⟩ := hrel
    clear hst
    by_cases hkn : k < n
    · obtain ⟨rfl, hb⟩ := H0.out (by omega)
      have g0 := (hbel.cell (p := ⟨b, off + k, none⟩) hb).trans (HC0.out k hkn)
      have r0 := hrow.cell (i := k * 2) (by omega)
      have r1 := hrow.cell (i := k * 2 + 1) (by omega)
      have f0 := hrow.frozen (k * 2)
      have f1 := hrow.frozen (k * 2 + 1)
      by_cases hm0 : m = 0
      · subst hm0
        go_wp2
        go_roundw
        case rel => exact ⟨k + 1, by omega, by go_num, acc_step hrow rfl (by rw [HW.out]; simp), (hbel.setCell (by simp) _).setCell (by simp) _, by simp [hsz]⟩
        case measure => simp [intOf]; omega
      · obtain ⟨rfl, hb1⟩ := H1.out (by omega)
        have hmm : k % m < m := Nat.mod_lt _ (by omega)
        have g1 := (hbel.cell (p := ⟨b1, off1 + k % m, none⟩) hb1).trans (HC1.out (k % m) hmm)
        have hm1 : 0 < m := by omega
        go_wp2
        go_roundw
        case rel => exact ⟨k + 1, by omega, by go_num, acc_step hrow rfl (by rw [HW.out]; simp [hm0]), (hbel.setCell (by simp) _).setCell (by simp) _, by simp [hsz]⟩
        case measure => simp [intOf]; omega
    · obtain rfl : k = n := by omega
      obtain ⟨w2, hcp, hrow2, hgr2⟩ := run_copy_rows Yba.prog (wr.alloc (.cells (madeCells #[.int .i32 0, .bool false] (k * 2)) 44)) 42 42 3 44 Yba.underlying42 2 Yba.size44 (w.heap.size + 1) k k (some ⟨w.heap.size, 0, none⟩) k 44 (accF T W 0) (accF T W k)
        (by have := acc_start wr T W k; rwa [hsz] at this) (src_row (hrow.alloc _)) (fun j _ => acc_one _ _ _ _)
      have hrow1 := rowIs_grown (hrow.alloc _) hgr2 (by simp)
      have hbel2 : Below w.heap.size w w2 := (hbel.alloc (by omega) _).grown hgr2 (by simp; omega) (fun k hk => by cases hk; omega)
      clear hgr2
      go_wp2
      clear hcp
      have hfn := fin_any (some ⟨w.heap.size, 0, none⟩) w.heap.size k k T W w2 hn (fun _ => rfl) (acc_c0 hrow1) (acc_c1 hrow1)
      go_loop [9, 10] (fun t i => ∃ q : Nat, q ≤ k ∧ i = .int .i64 q ∧ t = .int .i32 (lastW T W q)) (fun _ i => k - (intOf i).toNat)
      case atStart => exact ⟨0, Nat.zero_le _, rfl, rfl⟩
      case round =>
        obtain ⟨q, hq, rfl, rfl⟩ := hrel
        by_cases hqk : q < k
        · have g0 := acc_c0 hrow2 q hqk
          have g1 := acc_c1 hrow2 q hqk
          by_cases hW : W q = true
          · go_wp2
            go_round
            case rel => exact ⟨q + 1, by omega, by go_num, by simp [lastW, hW]⟩
            case measure => simp [intOf]; omega
          · have hW' : W q = false := by simpa using hW
            clear hW
            go_wp2
            go_round
            case rel => exact ⟨q + 1, by omega, by go_num, by simp [lastW, hW']⟩
            case measure => simp [intOf]; omega
        · obtain rfl : q = k := by omega
          go_wp2_with (go_at_call 6; refine hfn.mono ?_; rintro e w' ⟨rfl, hw'⟩; rw [hw'])
          go_loopw [12] (fun i wr => ∃ p s : Nat, p ≤ q ∧ i = .int .i64 p ∧ wr = w2.drewN s) (fun i _ => q - (intOf i).toNat)
          case atStart => exact ⟨0, 0, Nat.zero_le _, rfl, rfl⟩
          case round =>
            obtain ⟨p, s, hp, rfl, rfl⟩ := hrel
            by_cases hpq : p < q
            · have g0 := acc_c0 hrow1 p hpq
              have g1 := acc_c1 hrow1 p hpq
              have g2 := acc_c0 hrow2 p hpq
              have g3 := acc_c1 hrow2 p hpq
              go_wp2
              go_quiet (fail)
              go_wp2
              go_roundw
              case rel => exact ⟨p + 1, s + nq, by omega, by go_num, rfl⟩
              case measure => simp [intOf]; omega
            · go_wp2
              go_ret
              exact ⟨rfl, below_drewN hbel2 _⟩

set_option maxHeartbeats 1000000 in
theorem walkB_nil (at1 : Option Addr) (m c1 : Nat) (w : World) (hm : m ≤ 1048576) :
    Calls Yba.prog 4 #[.slice none 0 0, .slice at1 m c1] w fun e w' => e = .returned (.bool true) ∧ Below w.heap.size w w' := by
  have hmk : ∀ wx : World, (Instr.makeSlice 42 (.int .i64 0) (.int .i64 0)).run Yba.prog wx = .ok (.slice (some ⟨wx.heap.size, 0, none⟩) 0 0) (wx.alloc (.cells (madeCells #[.int .i32 0, .bool false] (0 * 2)) 44)) := fun wx => make44 0 (by omega) wx
  have hne := fun wx : World => run_neq_slice_nil_any (P := Yba.prog) wx 41 21 none 0 0 0 0 Yba.underlying41
  have hd2 : decide ((1048576 : Int) < (m : Int)) = false := decide_eq_false (by omega)
  have hcp := fun wx : World => run_copy_zero Yba.prog wx 42 42 3 44 2 (some ⟨w.heap.size, 0, none⟩) none 0 0 Yba.underlying42 Yba.size44
  have hfn : ∀ wx : World, Calls Yba.prog 6 #[.slice none 0 0] wx fun e w' => e = .returned (.int .i32 (-2)) ∧ w' = wx :=
    fun wx => fin_any none 0 0 0 (fun _ => 0) (fun _ => false) wx (by omega) (fun h => absurd h (by omega)) (fun i hi => absurd hi (by omega)) (fun i hi => absurd hi (by omega))
  go_enter Yba.func4, Yba.ntmps4
  go_wp2
  refine wp_loop_rounds 1 ?_
  rw [rounds_succ]
  go_wp2_with (go_at_call 6; refine (hfn _).mono ?_; rintro e w' ⟨rfl, hw'⟩; rw [hw'])
  refine wp_loop_rounds 1 ?_
  rw [rounds_succ]
  go_wp2
  go_ret
  exact ⟨rfl, (Below.refl _ _).alloc (Nat.le_refl _) _⟩

set_option maxHeartbeats 1000000 in
theorem walkB_long (at0 at1 : Option Addr) (n c0 m c1 : Nat) (w : World) (h : 1048576 < n ∨ 1048576 < m) :
    Calls Yba.prog 4 #[.slice at0 n c0, .slice at1 m c1] w fun e w' => e = .returned (.bool true) ∧ Below w.heap.size w w' := by
  by_cases h1 : 1048576 < n
  · have hd1 : decide ((1048576 : Int) < (n : Int)) = true := decide_eq_true (by omega)
    clear h
    go_enter Yba.func4, Yba.ntmps4
    go_wp2
    go_ret
    exact ⟨rfl, Below.refl _ _⟩
  · have h2 : 1048576 < m := by omega
    have hd1 : decide ((1048576 : Int) < (n : Int)) = false := decide_eq_false (by omega)
    have hd2 : decide ((1048576 : Int) < (m : Int)) = true := decide_eq_true (by omega)
    clear h
    go_enter Yba.func4, Yba.ntmps4
    go_wp2
    go_ret
    exact ⟨rfl, Below.refl _ _⟩

end Go.Proofs.Ybulkgahm
