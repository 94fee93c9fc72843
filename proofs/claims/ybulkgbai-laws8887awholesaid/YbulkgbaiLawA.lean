import Derived.Test.YbulkgbaiChange
import Derived.Deep.CutRange
namespace Go.Proofs.Ybulkgbai
open Go.RowKit Go.Zz Go.Zz.Fen

theorem Yba.info3 : (Yba.prog.info? 3).map (fun i => (i.zero, i.size, i.bytes)) = some (some (.int .i64 0), 1, 8) := by kernel_rfl
theorem make3 (n : Nat) (hn : n ≤ 1048576) (wx : World) : (Instr.makeSlice 22 (.int .i64 (n : Int)) (.int .i64 (n : Int))).run Yba.prog wx = .ok (.slice (some ⟨wx.heap.size, 0, none⟩) n n) (wx.alloc (.cells (madeCells #[.int .i64 0] n) 3)) := by
  have h := run_make_any Yba.prog 22 3 _ _ 1 8 Yba.underlying22 Yba.info3 rfl n (by omega) (by omega) wx
  rwa [Nat.mul_one] at h

/-- a row of numbers of which the first k are filled -/
def fillF (T : Nat → Int) (k : Nat) : Nat → Value := fun j => .int .i64 (if j < k then T j else 0)
theorem fill_start (w : World) (T : Nat → Int) (n : Nat) : (w.alloc (.cells (madeCells #[.int .i64 0] n) 3)).rowIs w.heap.size 3 n (fillF T 0) := by
  refine (rowIs_madeN w #[.int .i64 0] n 3).congr fun j hj => ?_
  simp [fillF, Nat.mod_one]
theorem fill_step {w : World} {B n k : Nat} {T : Nat → Int} (h : w.rowIs B 3 n (fillF T k)) : (w.setCell ⟨B, k, none⟩ (.int .i64 (T k))).rowIs B 3 n (fillF T (k + 1)) := by
  refine (h.set k _).congr fun j hj => ?_
  by_cases e : j = k
  · subst e; simp [fillF]
  · have e2 : j < k ↔ j < k + 1 := by omega
    simp [fillF, e, e2]
theorem fill_all {w : World} {B n : Nat} {T : Nat → Int} (h : w.rowIs B 3 n (fillF T n)) : w.rowIs B 3 n (fun j => .int .i64 (T j)) :=
  h.congr fun j hj => by simp [fillF, hj]

set_option maxRecDepth 100000 in
set_option maxHeartbeats 1000000 in
theorem walkA (at0 : Option Addr) (n c0 b off : Nat) (T : Nat → Int) (mem a2 by' : Int) (w : World)
    (ha0 : 0 < n → at0 = some ⟨b, off, none⟩ ∧ b < w.heap.size) (hc0 : ∀ i, i < n → w.cell? ⟨b, off + i, none⟩ = some (.int .i64 (T i))) (hnil : at0 = none → n = 0 ∧ c0 = 0)
    (h20 : 0 ≤ a2) (h21 : a2 ≤ 18446744073709551615) (hn : n ≤ 1048576) :
    Calls Yba.prog 3 #[.slice at0 n c0, .int .i64 mem, .int .u64 a2, .int .i64 by'] w fun e w' => e = .returned (.bool true) ∧ Below w.heap.size w w' := by
  have HA := hid ha0
  have HC := hid hc0
  have HN := hid hnil
  clear ha0 hc0 hnil
  obtain ⟨q, hq, hqn⟩ : ∃ q : Nat, a2 % ((n : Int) + 2) = (q : Int) ∧ q ≤ n + 1 := by
    have h1 := Int.emod_nonneg a2 (show (n : Int) + 2 ≠ 0 by omega)
    have h2 := Int.emod_lt_of_pos a2 (show (0 : Int) < (n : Int) + 2 by omega)
    exact ⟨(a2 % ((n : Int) + 2)).toNat, by omega, by omega⟩
  have hd1 : decide ((1048576 : Int) < (n : Int)) = false := decide_eq_false (by omega)
  have hmk := make3 n hn
  have hst := fill_start w T n
  go_enter Yba.func3, Yba.ntmps3
  go_wp2
  go_loopw [12] (fun i wr => ∃ k : Nat, k ≤ n ∧ i = .int .i64 k ∧ wr.rowIs w.heap.size 3 n (fillF T k) ∧ Below w.heap.size w wr ∧ wr.heap.size = w.heap.size + 1) (fun i _ => n - (intOf i).toNat)
  case atStart => exact ⟨0, Nat.zero_le _, rfl, hst, (Below.refl _ _).alloc (Nat.le_refl _) _, by simp⟩
  case round =>
    obtain ⟨k, hk, rfl, hrow, hbel, hsz⟩ := hrel
    clear hst
    by_cases hkn : k < n
    · obtain ⟨rfl, hb⟩ := HA.out (by omega)
      have g0 := (hbel.cell (p := ⟨b, off + k, none⟩) hb).trans (HC.out k hkn)
      have r0 := hrow.cell hkn
      have f0 := hrow.frozen k
      go_wp2
      go_roundw
      case rel => exact ⟨k + 1, by omega, by go_num, fill_step hrow, hbel.setCell (by simp) _, by simp [hsz]⟩
      case measure => simp [intOf]; omega
    · obtain rfl : k = n := by omega
      have hO := fill_all hrow
      clear hrow
      have hne := fun wx : World => run_neq_slice_nil_any (P := Yba.prog) wx 22 3 at0 k c0 0 0 Yba.underlying22
      go_upto_if 45 with fail
      go_cut [13] from 19 to 59 (fun v wx => ∃ av, v = .slice av k k ∧ Vec wx w.heap.size 3 1 (.slice av k k) k (fun j => .int .i64 (T j)) ∧ wx.rowIs w.heap.size 3 k (fun j => .int .i64 (T j)) ∧ (Value.slice av k k).ownBlock ≠ some w.heap.size ∧ Below w.heap.size w wx)
      case first =>
        cases at0 with
        | none =>
          obtain ⟨rfl, rfl⟩ := HN.out rfl
          go_wp2
          go_meet
          case rel => exact ⟨none, rfl, Vec.nil _ _ _ _ _, hO, by simp [Value.ownBlock], hbel⟩
        | some x =>
          have hst2 := fill_start wr T k
          rw [hsz] at hst2
          go_wp2
          go_loopw [14] (fun i wq => ∃ m : Nat, m ≤ k ∧ i = .int .i64 m ∧ wq.rowIs (w.heap.size + 1) 3 k (fillF T m) ∧ wq.rowIs w.heap.size 3 k (fun j => .int .i64 (T j)) ∧ Below w.heap.size w wq) (fun i _ => k - (intOf i).toNat)
          case atStart => exact ⟨0, Nat.zero_le _, rfl, hst2, hO.alloc _, hbel.alloc (by omega) _⟩
          case round =>
            obtain ⟨m, hm, rfl, hrow2, hO2, hbel2⟩ := hrel
            by_cases hmk : m < k
            · obtain ⟨hx, hb⟩ := HA.out (by omega)
              simp only [Option.some.injEq] at hx
              subst hx
              have g0 := (hbel2.cell (p := ⟨b, off + m, none⟩) hb).trans (HC.out m hmk)
              have r0 := hrow2.cell hmk
              have f0 := hrow2.frozen m
              go_wp2
              go_roundw
              case rel => exact ⟨m + 1, by omega, by go_num, fill_step hrow2, hO2.setOther (by simp) _, hbel2.setCell (by simp) _⟩
              case measure => simp [intOf]; omega
            · obtain rfl : m = k := by omega
              go_wp2
              go_meet
              case rel => exact ⟨_, rfl, Vec.of_row (by rw [Nat.mul_one]; exact fill_all hrow2) (by omega) (by unfold maxLen; omega), hO2, by simp [Value.ownBlock], hbel2⟩
      case rest =>
        obtain ⟨av, rfl, hV, hO3, hne3, hbel3⟩ := hcut
        obtain ⟨w3, hw3⟩ : ∃ w3, w3 = wc := ⟨_, rfl⟩
        subst hw3
        clear hO hbel hsz hne hmk
        have hR := rk_start w3 (.slice av k k) mem
        have hch := change_any w3.heap.size w.heap.size (.slice av k k) k q T mem by' _ (by omega) (by omega) hR (hV.alloc _) (by
          rcases hV.shape with ⟨h1, _⟩ | ⟨b', c', h1, _, hlt, _⟩
          · rw [h1]; simp [Value.ownBlock]
          · rw [h1]; simp [Value.ownBlock]; omega)
        have hlt3 := hO3.lt
        have hO4 := hO3.alloc (.cells #[.slice av k k, .int .i64 mem] 26)
        have hbel4 := hbel3.alloc hbel3.size (.cells #[.slice av k k, .int .i64 mem] 26)
        have hmm : (wrap64 (mem + by') != wrap64 (mem + by')) = false := by simp
        go_wp2_with (go_at_call 6; refine hch.mono ?_; rintro e w5 ⟨rfl, hV5, hR5, hK5, hz5⟩; have c0' := rk_c0 hR5; have c1' := rk_c1 hR5)
        clear hch hmm
        have hO5 := hK5.row hO4 (by
          intro hm
          rcases List.mem_cons.1 hm with h | h
          · omega
          · exact hne3 (by simpa using h))
        have hbel5 : Below w.heap.size w w5 := kept_below hbel4 hK5 hbel4.size (by
          intro b' hm
          rcases List.mem_cons.1 hm with h | h
          · subst h; omega
          · rcases hV.shape with ⟨h1, _⟩ | ⟨b2, c2, h1, hBb, _⟩
            · rw [h1] at h; simp [Value.ownBlock] at h
            · rw [h1] at h; simp [Value.ownBlock] at h; omega)
        clear hO4 hO3 hbel4 hbel3 hR hK5 hz5 c1'
        go_loopw [16] (fun i wr => ∃ p s : Nat, p ≤ k ∧ i = .int .i64 p ∧ wr = w5.drewN s) (fun i _ => k - (intOf i).toNat)
        case atStart => exact ⟨0, 0, Nat.zero_le _, rfl, rfl⟩
        case round =>
          obtain ⟨p, s, hp, rfl, rfl⟩ := hrel
          by_cases hpk : p < k
          · obtain ⟨rfl, hb⟩ := HA.out (by omega)
            have g0 := (hbel5.cell (p := ⟨b, off + p, none⟩) hb).trans (HC.out p hpk)
            have r0 := hO5.cell hpk
            obtain ⟨b2, rfl⟩ : ∃ b2, av = some ⟨b2, 0, none⟩ := by
              rcases hV.shape with ⟨h1, h2⟩ | ⟨b2, c2, h1, _⟩
              · omega
              · simp only [Value.slice.injEq] at h1; exact ⟨b2, h1.1⟩
            have v0 := hV5.cell (j := p) (by omega)
            have hpk' : (p : Int) < (k : Int) := by omega
            have hpp : (T p != T p) = false := by simp
            have hpq : (wrap64 (T p + by') != wrap64 (T p + by')) = false := by simp
            by_cases hp0 : p < 1
            · have hh : hit q p = false := decide_eq_false (by omega)
              simp only [hh, Bool.false_eq_true, if_false] at v0
              go_wp2
              go_quiet (fail)
              go_wp2
              go_roundw
              case rel => exact ⟨p + 1, s + nq, by omega, by go_num, rfl⟩
              case measure => simp [intOf]; omega
            · have hlo := low_le p (by omega)
              have hl := fun wx => low_any p wx (by omega) (by omega)
              by_cases hh : hit q p = true
              · have ⟨_, h1, h2⟩ := of_decide_eq_true hh
                simp only [hh, if_true] at v0
                clear hh
                go_wp2_with (go_at_call 7; refine (hl _).mono ?_; rintro e w' ⟨rfl, hw'⟩; rw [hw']; clear hw')
                go_quiet (fail)
                go_wp2
                go_roundw
                case rel => exact ⟨p + 1, s + nq, by omega, by go_num, rfl⟩
                case measure => simp [intOf]; omega
              · have hh' : hit q p = false := by simpa using hh
                have h3 := of_decide_eq_false hh'
                simp only [hh', Bool.false_eq_true, if_false] at v0
                clear hh hh'
                by_cases h1 : p - low p ≤ q
                · have h2 : ¬ q < p := fun h2 => h3 ⟨by omega, h1, h2⟩
                  clear h3
                  go_wp2_with (go_at_call 7; refine (hl _).mono ?_; rintro e w' ⟨rfl, hw'⟩; rw [hw']; clear hw')
                  go_quiet (fail)
                  go_wp2
                  go_roundw
                  case rel => exact ⟨p + 1, s + nq, by omega, by go_num, rfl⟩
                  case measure => simp [intOf]; omega
                · clear h3
                  go_wp2_with (go_at_call 7; refine (hl _).mono ?_; rintro e w' ⟨rfl, hw'⟩; rw [hw']; clear hw')
                  go_quiet (fail)
                  go_wp2
                  go_roundw
                  case rel => exact ⟨p + 1, s + nq, by omega, by go_num, rfl⟩
                  case measure => simp [intOf]; omega
          · go_wp2
            go_ret
            exact ⟨rfl, below_drewN hbel5 _⟩

set_option maxRecDepth 100000 in
theorem walkA_long (at0 : Option Addr) (n c0 : Nat) (mem a2 by' : Int) (w : World) (h : 1048576 < n) :
    Calls Yba.prog 3 #[.slice at0 n c0, .int .i64 mem, .int .u64 a2, .int .i64 by'] w fun e w' => e = .returned (.bool true) ∧ Below w.heap.size w w' := by
  have hd1 : decide ((1048576 : Int) < (n : Int)) = true := decide_eq_true (by omega)
  go_enter Yba.func3, Yba.ntmps3
  go_wp2
  go_ret
  exact ⟨rfl, Below.refl _ _⟩

end Go.Proofs.Ybulkgbai
