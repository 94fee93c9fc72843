import Derived.Test.YbulkgahmLawAParts
import Derived.Deep.DeepCutAuto
namespace Go.Proofs.Ybulkgahm
open Go.RowKit Go.Zz

theorem wrap32_mod (x : Int) (n : Nat) (h0 : 0 < n) (h : n ≤ 64) : wrap32 (x % (n : Int)) = x % (n : Int) := by
  have h1 := Int.emod_nonneg x (show (n : Int) ≠ 0 by omega)
  have h2 := Int.emod_lt_of_pos x (show (0 : Int) < n by omega)
  generalize x % (n : Int) = y at *
  unfold wrap32
  omega

set_option maxRecDepth 100000 in
set_option maxHeartbeats 2000000 in
theorem walkA (a0 : Int) (h00 : 0 ≤ a0) (h01 : a0 ≤ 255) (at0 : Option Addr) (L c0 : Nat) (ob off : Nat) (K Wd Tx I : Nat → Int) (w : World) (n : Nat)
    (hn : n = if a0 % 65 = 0 ∧ 0 < L then 1 else (a0 % 65).toNat)
    (ha0 : 0 < L → at0 = some ⟨ob, off, none⟩ ∧ ob < w.heap.size)
    (k0 : ∀ i, i < L → w.cell? ⟨ob, off + i * 4, none⟩ = some (.int .u8 (K i))) (k1 : ∀ i, i < L → w.cell? ⟨ob, off + i * 4 + 1, none⟩ = some (.int .u8 (Wd i)))
    (k2 : ∀ i, i < L → w.cell? ⟨ob, off + i * 4 + 2, none⟩ = some (.int .u16 (Tx i))) (k3 : ∀ i, i < L → w.cell? ⟨ob, off + i * 4 + 3, none⟩ = some (.int .i32 (I i)))
    (hT : ∀ i, i < L → 0 ≤ Tx i ∧ Tx i ≤ 65535) (hL : L ≤ 65536) :
    Calls Yba.prog 3 #[.int .u8 a0, .slice at0 L c0] w fun e w' => e = .returned (.bool true) ∧ Below w.heap.size w w' := by
  have HA : Hid (0 < L → at0 = some ⟨ob, off, none⟩ ∧ ob < w.heap.size) := ha0
  have H0 : Hid (∀ i, i < L → w.cell? ⟨ob, off + i * 4, none⟩ = some (.int .u8 (K i))) := k0
  have H1 : Hid (∀ i, i < L → w.cell? ⟨ob, off + i * 4 + 1, none⟩ = some (.int .u8 (Wd i))) := k1
  have H2 : Hid (∀ i, i < L → w.cell? ⟨ob, off + i * 4 + 2, none⟩ = some (.int .u16 (Tx i))) := k2
  have H3 : Hid (∀ i, i < L → w.cell? ⟨ob, off + i * 4 + 3, none⟩ = some (.int .i32 (I i))) := k3
  have HT : Hid (∀ i, i < L → 0 ≤ Tx i ∧ Tx i ≤ 65535) := hT
  have HN : Hid (n = if a0 % 65 = 0 ∧ 0 < L then 1 else (a0 % 65).toNat) := hn
  have hn65 : n ≤ 64 := by rw [hn]; split <;> omega
  have hnL : 0 < L → 0 < n := by
    intro h; rw [hn]; split
    · omega
    · omega
  clear ha0 k0 k1 k2 k3 hT hn
  have hd1 : decide ((65536 : Int) < (L : Int)) = false := decide_eq_false (by omega)
  have hmt := make31 n (by omega)
  have hmo := make37 L (by omega)
  obtain ⟨X, hX⟩ : ∃ X : Nat → Int, X = fun i => Tx i % (n : Int) := ⟨_, rfl⟩
  have HX : Hid (∀ i, X i = Tx i % (n : Int)) := fun i => by rw [hX]
  clear hX
  go_enter Yba.func3, Yba.ntmps3
  go_upto_region 4 with fail
  obtain ⟨B, hB⟩ : ∃ B : Bool, B = decide (a0 % 65 = 0 ∧ 0 < L) := ⟨_, rfl⟩
  have HB : Hid (B = decide (a0 % 65 = 0 ∧ 0 < L)) := hB
  clear hB
  go_cut [29] from 17 to 28 (fun v wx => v = .bool B ∧ w = wx)
  case first =>
    by_cases h1 : a0 % 65 = 0
    · have h1' : (a0 % 65 == 0) = true := by simpa using h1
      by_cases h2 : 0 < L
      · have h2' : decide ((0 : Int) < (L : Int)) = true := decide_eq_true (by omega)
        go_wp2
        go_meet
        case rel => exact ⟨by rw [HB.out, decide_eq_true ⟨h1, h2⟩], rfl⟩
      · have h2' : decide ((0 : Int) < (L : Int)) = false := decide_eq_false (by omega)
        go_wp2
        go_meet
        case rel => exact ⟨by rw [HB.out, decide_eq_false (fun h => h2 h.2)], rfl⟩
    · have h1' : (a0 % 65 == 0) = false := by simpa using h1
      go_wp2
      go_meet
      case rel => exact ⟨by rw [HB.out, decide_eq_false (fun h => h1 h.1)], rfl⟩
  case rest =>
    obtain ⟨rfl, rfl⟩ := hcut
    go_upto_if 29 with fail
    go_cut [5] from 17 to 29 (fun v wx => v = .int .i64 (n : Int) ∧ w = wx)
    case first =>
      cases B with
      | true =>
        go_wp2
        go_meet
        case rel =>
          have h := of_decide_eq_true HB.out.symm
          have hh := HN.out
          rw [if_pos h] at hh
          subst hh
          exact ⟨rfl, rfl⟩
      | false =>
        go_wp2
        go_meet
        case rel =>
          have h := of_decide_eq_false HB.out.symm
          have hh := HN.out
          rw [if_neg h] at hh
          subst hh
          exact ⟨by rw [Int.toNat_of_nonneg (by omega)], rfl⟩
    case rest =>
      obtain ⟨rfl, rfl⟩ := hcut
      clear HB HN
      go_wp2
      have s1 : ((w.alloc (.cells #[.string ⟨#[115]⟩, .slice none 0 0, .slice (some ⟨w.heap.size + 1, 0, none⟩) n n, .slice none 0 0] 28)).alloc (.cells (madeCells #[.int .i32 0, .int .u8 0] (n * 2)) 31)).rowIs w.heap.size 28 4 (schF (.slice none 0 0) (.slice (some ⟨w.heap.size + 1, 0, none⟩) n n)) := (sch_start w _ _).alloc _
      have s2 := tx_start (w.alloc (.cells #[.string ⟨#[115]⟩, .slice none 0 0, .slice (some ⟨w.heap.size + 1, 0, none⟩) n n, .slice none 0 0] 28)) n
      rw [World.size_alloc] at s2
      have s3 : Below w.heap.size w ((w.alloc (.cells #[.string ⟨#[115]⟩, .slice none 0 0, .slice (some ⟨w.heap.size + 1, 0, none⟩) n n, .slice none 0 0] 28)).alloc (.cells (madeCells #[.int .i32 0, .int .u8 0] (n * 2)) 31)) := ((Below.refl _ _).alloc (Nat.le_refl _) _).alloc (by simp) _
      go_loopw [7] (fun i wr => ∃ k : Nat, k ≤ n ∧ i = .int .i64 k ∧ wr.rowIs w.heap.size 28 4 (schF (.slice none 0 0) (.slice (some ⟨w.heap.size + 1, 0, none⟩) n n)) ∧ wr.rowIs (w.heap.size + 1) 31 (n * 2) (txF k) ∧ Below w.heap.size w wr ∧ wr.heap.size = w.heap.size + 2) (fun i _ => n - (intOf i).toNat)
      case atStart => exact ⟨0, Nat.zero_le _, rfl, s1, s2, s3, by simp⟩
      case round =>
        obtain ⟨k, hk, rfl, hS, hTx, hbel, hsz⟩ := hrel
        clear s1 s2 s3
        by_cases hkn : k < n
        · have g2 := sch_c2 hS
          have r0 := hTx.cell (i := k * 2) (by omega)
          have r1 := hTx.cell (i := k * 2 + 1) (by omega)
          have f0 := hTx.frozen (k * 2)
          have f1 := hTx.frozen (k * 2 + 1)
          go_wp2
          go_roundw
          case rel => exact ⟨k + 1, by omega, by go_num, (hS.setOther (by simp) _).setOther (by simp) _, tx_step hTx, (hbel.setCell (by simp) _).setCell (by simp) _, by simp [hsz]⟩
          case measure => simp [intOf]; omega
        · obtain rfl : k = n := by omega
          have hcS1 := sch_c1 hS
          have hfS1 := hS.frozen 1
          go_wp2
          clear hcS1 hfS1
          go_loopw [8] (fun i wq => ∃ j : Nat, j ≤ L ∧ i = .int .i64 j ∧ wq.rowIs w.heap.size 28 4 (schF (.slice (some ⟨w.heap.size + 2, 0, none⟩) L L) (.slice (some ⟨w.heap.size + 1, 0, none⟩) k k)) ∧ wq.rowIs (w.heap.size + 1) 31 (k * 2) (txF k) ∧ wq.rowIs (w.heap.size + 2) 37 (L * 4) (opF K Wd X I j) ∧ Below w.heap.size w wq ∧ wq.heap.size = w.heap.size + 3) (fun i _ => L - (intOf i).toNat)
          case atStart =>
            exact ⟨0, Nat.zero_le _, rfl, (sch_ops hS _).alloc _, (hTx.setOther (by simp) _).alloc _, by have := op_start (wr.setCell ⟨w.heap.size, 1, none⟩ (.slice (some ⟨w.heap.size + 2, 0, none⟩) L L)) K Wd X I L; rw [World.size_setCell, hsz] at this; exact this, (hbel.setCell (by simp) _).alloc (by simp; omega) _, by simp [hsz]⟩
          case round =>
            obtain ⟨j, hj, rfl, hS, hTx, hOp, hbel, hsz⟩ := hrel
            by_cases hjL : j < L
            · obtain ⟨rfl, hob⟩ := HA.out (by omega)
              have g0 := (hbel.cell (p := ⟨ob, off + j * 4, none⟩) hob).trans (H0.out j hjL)
              have g1 := (hbel.cell (p := ⟨ob, off + j * 4 + 1, none⟩) hob).trans (H1.out j hjL)
              have g2 := (hbel.cell (p := ⟨ob, off + j * 4 + 2, none⟩) hob).trans (H2.out j hjL)
              have g3 := (hbel.cell (p := ⟨ob, off + j * 4 + 3, none⟩) hob).trans (H3.out j hjL)
              have s1 := sch_c1 hS
              have r0 := hOp.cell (i := j * 4) (by omega)
              have r1 := hOp.cell (i := j * 4 + 1) (by omega)
              have r2 := hOp.cell (i := j * 4 + 2) (by omega)
              have r3 := hOp.cell (i := j * 4 + 3) (by omega)
              have f0 := hOp.frozen (j * 4)
              have f1 := hOp.frozen (j * 4 + 1)
              have f2 := hOp.frozen (j * 4 + 2)
              have f3 := hOp.frozen (j * 4 + 3)
              obtain ⟨t0, t1⟩ := HT.out j hjL
              have hn0 : 0 < k := hnL (by omega)
              have hj' : (j : Int) < (L : Int) := by omega
              go_wp2
              go_big_region
              clear r0 r1 r2 r3 f0 f1 f2 f3 s1 g0 g1 g2 g3
              go_wp2
              go_roundw
              case rel => exact ⟨j + 1, by omega, by go_num, (((hS.setOther (by simp) _).setOther (by simp) _).setOther (by simp) _).setOther (by simp) _, (((hTx.setOther (by simp) _).setOther (by simp) _).setOther (by simp) _).setOther (by simp) _, op_step hOp (by rw [HX.out, wrap32_mod _ _ hn0 hn65]), ((((hbel.setCell (by simp) _).setCell (by simp) _).setCell (by simp) _).setCell (by simp) _).drew, by simp [hsz]⟩
              case measure => simp [intOf]; omega
            · obtain rfl : j = L := by omega
              obtain ⟨w2, hcp1, hOc, hg2, hz2⟩ := run_copy_rows_sized Yba.prog (wr.alloc (.cells (madeCells #[.int .u8 0, .int .u8 0, .int .i32 0, .int .i32 0] (j * 4)) 37)) 24 24 3 37 Yba.underlying24 4 Yba.size37 (w.heap.size + 3) j j (some ⟨w.heap.size + 2, 0, none⟩) j 37 (opF K Wd X I 0) (opF K Wd X I j)
                (by have := op_start wr K Wd X I j; rwa [hsz] at this) (src_row (hOp.alloc _)) (fun q _ => op_one _ _ _ _ _ _)
              replace hz2 : w2.heap.size = w.heap.size + 4 := by rw [hz2, World.size_alloc, hsz]
              have hS2 := rowIs_grown (hS.alloc _) hg2 (by simp)
              have hTx2 := rowIs_grown (hTx.alloc _) hg2 (by simp)
              have hOp2 := rowIs_grown (hOp.alloc _) hg2 (by simp)
              have hbel2 : Below w.heap.size w w2 := (hbel.alloc (by omega) _).grown hg2 (by simp; omega) (fun k hk => by cases hk; omega)
              obtain ⟨w3, hcp2, hTc, hg3, hz3⟩ := run_copy_rows_sized Yba.prog (w2.alloc (.cells (madeCells #[.int .i32 0, .int .u8 0] (k * 2)) 31)) 25 25 3 31 Yba.underlying25 2 Yba.size31 (w.heap.size + 4) k k (some ⟨w.heap.size + 1, 0, none⟩) k 31 (txF 0) (txF k)
                (by have := tx_start w2 k; rwa [hz2] at this) (src_row (hTx2.alloc _)) (fun q _ => tx_one _ _)
              replace hz3 : w3.heap.size = w.heap.size + 5 := by rw [hz3, World.size_alloc, hz2]
              have hS3 := rowIs_grown (hS2.alloc _) hg3 (by simp)
              have hTx3 := rowIs_grown (hTx2.alloc _) hg3 (by simp)
              have hOp3 := rowIs_grown (hOp2.alloc _) hg3 (by simp)
              have hOc3 := rowIs_grown (hOc.alloc _) hg3 (by simp)
              have hbel3 : Below w.heap.size w w3 := (hbel2.alloc (by omega) _).grown hg3 (by simp; omega) (fun k hk => by cases hk; omega)
              have hX0 : ∀ i, i < j → 0 ≤ X i ∧ X i < k := fun i hi => by
                have hk0 : 0 < k := hnL (by omega)
                rw [HX.out i]
                exact ⟨Int.emod_nonneg _ (by omega), Int.emod_lt_of_pos _ (by omega)⟩
              have hbey := beyond_any w.heap.size (some ⟨w.heap.size + 2, 0, none⟩) (some ⟨w.heap.size + 1, 0, none⟩) j j k k (w.heap.size + 2) K Wd X I w3 (by omega) (sch_c1 hS3) (sch_c2 hS3) hL (by omega)
                (fun _ => ⟨rfl, by omega⟩) (op_c0 hOp3) (op_c1 hOp3) (op_c2 hOp3) (op_c3 hOp3) hX0
              rw [hz3] at hbey
              have c1 := sch_c1 hS
              have c2 := sch_c2 hS2
              clear hX0 hg2 hg3 hS hTx hOp hbel hS2 hTx2 hOp2 hbel2 hOc
              go_wp2_with (go_at_call 5; refine hbey.mono ?_; rintro e w4 ⟨rfl, hG, hb4⟩)
              clear hbey hcp1 hcp2 c1 c2 hsz hmt hmo
              have hS4 := hS3.of_block (hb4.block _ (by omega))
              have hTx4 := hTx3.of_block (hb4.block _ (by omega))
              have hOp4 := hOp3.of_block (hb4.block _ (by omega))
              have hOc4 := hOc3.of_block (hb4.block _ (by omega))
              have hTc4 := hTc.of_block (hb4.block _ (by omega))
              have hbel4 : Below w.heap.size w w4 := hbel3.trans (hb4.mono (by omega))
              clear hS3 hTx3 hOp3 hOc3 hTc hb4 hz3 hz2
              go_loop [12] (fun t => ∃ q : Nat, q ≤ k ∧ t = .int .i64 q) (fun t => k - (intOf t).toNat)
              case atStart => exact ⟨0, Nat.zero_le _, rfl⟩
              case round =>
                obtain ⟨q, hq, rfl⟩ := hrel
                by_cases hqk : q < k
                · have gq := hG.cell hqk
                  go_wp2
                  go_loop [13, 14] (fun b i => ∃ p : Nat, p ≤ j ∧ i = .int .i64 p ∧ b = .bool (hasT K X q p)) (fun _ i => j - (intOf i).toNat)
                  case atStart => exact ⟨0, Nat.zero_le _, rfl, rfl⟩
                  case round =>
                    obtain ⟨p, hp, rfl, rfl⟩ := hrel
                    by_cases hpj : p < j
                    · obtain ⟨rfl, hob⟩ := HA.out (by omega)
                      have g0 := (hbel4.cell (p := ⟨ob, off + p * 4, none⟩) hob).trans (H0.out p hpj)
                      have g2 := (hbel4.cell (p := ⟨ob, off + p * 4 + 2, none⟩) hob).trans (H2.out p hpj)
                      obtain ⟨t0, t1⟩ := HT.out p hpj
                      have hn0 : 0 < k := hnL (by omega)
                      have hXp := HX.out p
                      by_cases hx : Tx p % (k : Int) = (q : Int)
                      · have hx' : (Tx p % (k : Int) == (q : Int)) = true := by simpa using hx
                        have HXq : Hid (X p = (q : Int)) := hXp.trans hx
                        clear hXp hx
                        by_cases hk4 : K p < 4
                        · go_wp2
                          go_round
                          case rel => exact ⟨p + 1, by omega, by go_num, by simp [hasT, HXq.out, hk4]⟩
                          case measure => simp [intOf]; omega
                        · go_wp2
                          go_round
                          case rel => exact ⟨p + 1, by omega, by go_num, by simp [hasT, HXq.out, hk4]⟩
                          case measure => simp [intOf]; omega
                      · have hx' : (Tx p % (k : Int) == (q : Int)) = false := by simpa using hx
                        have HXq : Hid (¬ X p = (q : Int)) := by rw [Hid, hXp]; exact hx
                        clear hXp hx
                        go_wp2
                        go_round
                        case rel => exact ⟨p + 1, by omega, by go_num, by simp [hasT, HXq.out]⟩
                        case measure => simp [intOf]; omega
                    · obtain rfl : p = j := by omega
                      have hbb : (hasT K X q p != hasT K X q p) = false := by simp
                      go_wp2
                      go_round
                      case rel => exact ⟨q + 1, by omega, by go_num⟩
                      case measure => simp [intOf]; omega
                · obtain rfl : q = k := by omega
                  have s0 := sch_c0 hS4
                  have s1 := sch_c1 hS4
                  have s2 := sch_c2 hS4
                  have s3 := sch_c3 hS4
                  have hne := fun wx : World => run_neq_slice_nil_any (P := Yba.prog) wx 26 9 none 0 0 0 0 Yba.underlying26
                  go_wp2
                  clear hne s0 s3
                  go_loopw [15] (fun i wr => ∃ p s : Nat, p ≤ j ∧ i = .int .i64 p ∧ wr = w4.drewN s) (fun i _ => j - (intOf i).toNat)
                  case atStart => exact ⟨0, 0, Nat.zero_le _, rfl, rfl⟩
                  case round =>
                    obtain ⟨p, s, hp, rfl, rfl⟩ := hrel
                    by_cases hpj : p < j
                    · have hpj' : (p : Int) < (j : Int) := by omega
                      have g0 := op_c0 hOp4 p hpj
                      have g1 := op_c1 hOp4 p hpj
                      have g2 := op_c2 hOp4 p hpj
                      have g3 := op_c3 hOp4 p hpj
                      have e0 := op_c0 hOc4 p hpj
                      have e1 := op_c1 hOc4 p hpj
                      have e2 := op_c2 hOc4 p hpj
                      have e3 := op_c3 hOc4 p hpj
                      go_wp2
                      go_quiet (fail)
                      go_wp2
                      go_roundw
                      case rel => exact ⟨p + 1, s + nq, by omega, by go_num, rfl⟩
                      case measure => simp [intOf]; omega
                    · go_wp2
                      go_loopw [16] (fun i wr => ∃ p s : Nat, p ≤ q ∧ i = .int .i64 p ∧ wr = w4.drewN s) (fun i _ => q - (intOf i).toNat)
                      case atStart => exact ⟨0, s, Nat.zero_le _, rfl, rfl⟩
                      case round =>
                        obtain ⟨p, s, hp, rfl, rfl⟩ := hrel
                        by_cases hpq : p < q
                        · have hpq' : (p : Int) < (q : Int) := by omega
                          have g0 := tx_c0 hTx4 p hpq
                          have g1 := tx_c1 hTx4 p hpq
                          have e0 := tx_c0 hTc4 p hpq
                          have e1 := tx_c1 hTc4 p hpq
                          go_wp2
                          go_quiet (fail)
                          go_wp2
                          go_roundw
                          case rel => exact ⟨p + 1, s + nq, by omega, by go_num, rfl⟩
                          case measure => simp [intOf]; omega
                        · go_wp2
                          go_ret
                          exact ⟨rfl, below_drewN hbel4 _⟩

set_option maxRecDepth 100000 in
theorem walkA_long (a0 : Int) (at0 : Option Addr) (L c0 : Nat) (w : World) (hL : 65536 < L) :
    Calls Yba.prog 3 #[.int .u8 a0, .slice at0 L c0] w fun e w' => e = .returned (.bool true) ∧ Below w.heap.size w w' := by
  have hd1 : decide ((65536 : Int) < (L : Int)) = true := decide_eq_true (by omega)
  go_enter Yba.func3, Yba.ntmps3
  go_wp2
  go_ret
  exact ⟨rfl, Below.refl _ _⟩

end Go.Proofs.Ybulkgahm
