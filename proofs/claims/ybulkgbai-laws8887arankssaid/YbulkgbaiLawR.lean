import Derived.Test.YbulkgbaiGrow
namespace Go.Proofs.Ybulkgbai
open Go.RowKit Go.Zz Go.Zz.Fen

theorem Yba.info4b : (Yba.prog.info? 4).map (fun i => (i.zero, i.size, i.bytes)) = some (some (.bool false), 1, 1) := by kernel_rfl
theorem make30 (n : Nat) (hn : n ≤ 1048576) (wx : World) : (Instr.makeSlice 30 (.int .i64 (n : Int)) (.int .i64 (n : Int))).run Yba.prog wx = .ok (.slice (some ⟨wx.heap.size, 0, none⟩) n n) (wx.alloc (.cells (madeCells #[.bool false] n) 4)) := by
  have h := run_make_any Yba.prog 30 4 _ _ 1 1 Yba.underlying30 Yba.info4b rfl n (by omega) (by omega) wx
  rwa [Nat.mul_one] at h

/-- how long the sums are behind k calls of 'grow' -/
def len1 (k : Nat) : Nat := if k = 0 then 0 else k + 1
theorem len1_step (k : Nat) : gl (len1 k) = len1 (k + 1) := by unfold gl len1; split <;> simp_all

/-- what holds of the memory while the places M are members: the 'ranked' at S, the row of marks at R -/
def Inv (w0 w : World) (n S R : Nat) (M : Nat → Bool) : Prop :=
  ∃ v, Vec w w0.heap.size 3 1 v (len1 n) (fun j => .int .i64 (sumF M j)) ∧ w.rowIs S 26 2 (rkF v (cnt M n : Int)) ∧ v.ownBlock ≠ some S ∧ v.ownBlock ≠ some R ∧ w.rowIs R 4 n (fun i => .bool (M i)) ∧ Below w0.heap.size w0 w

theorem inv_add {w0 w w5 w6 : World} {n S R p : Nat} {M : Nat → Bool} {v : Value} (hn : n ≤ 65536) (hp : p < n) (hM : M p = false) (hS : w0.heap.size ≤ S) (hR : w0.heap.size ≤ R) (hSR : S ≠ R)
    (hV : Vec w w0.heap.size 3 1 v (len1 n) (fun j => .int .i64 (sumF M j))) (hne1 : v.ownBlock ≠ some S) (hne2 : v.ownBlock ≠ some R) (hRow : w.rowIs R 4 n (fun i => .bool (M i))) (hbel : Below w0.heap.size w0 w)
    (hV5 : Vec w5 w0.heap.size 3 1 v (len1 n) (fun j => .int .i64 (if hit p j = true then wrap64 (sumF M j + 1) else sumF M j))) (hR5 : w5.rowIs S 26 2 (rkF v (wrap64 ((cnt M n : Int) + 1)))) (hK : Kept (S :: v.ownBlock.toList) w w5)
    (h6 : w6 = w5.setCell ⟨R, p, none⟩ (.bool true)) : Inv w0 w6 n S R (turn M p true) := by
  have hRow5 := hK.row hRow (by
    intro hm
    rcases List.mem_cons.1 hm with h | h
    · exact hSR h.symm
    · exact hne2 (by simpa using h))
  have hbel5 : Below w0.heap.size w0 w5 := kept_below hbel hK hbel.size (by
    intro b' hm
    rcases List.mem_cons.1 hm with h | h
    · omega
    · rcases hV.shape with ⟨h1, _⟩ | ⟨b2, c2, h1, hBb, _⟩
      · rw [h1] at h; simp [Value.ownBlock] at h
      · rw [h1] at h; simp [Value.ownBlock] at h; omega)
  have hc := cnt_le M n
  have e1 : wrap64 ((cnt M n : Int) + 1) = (cnt (turn M p true) n : Int) := by
    rw [cnt_add M p hM n, if_pos hp]
    unfold wrap64
    omega
  rw [e1] at hR5
  subst h6
  refine ⟨v, ?_, hR5.setOther (by simpa using hSR) _, hne1, hne2, ?_, hbel5.setCell (by simpa using hR) _⟩
  · have hset : Vec (w5.setCell ⟨R, p, none⟩ (.bool true)) w0.heap.size 3 1 v (len1 n) (fun j => .int .i64 (if hit p j = true then wrap64 (sumF M j + 1) else sumF M j)) := by
      rcases hV5.shape with ⟨h1, h2⟩ | ⟨b2, c2, h1, _⟩
      · rw [h1, h2]; exact Vec.nil _ _ _ _ _
      · rw [h1] at hV5 hne2 ⊢
        exact hV5.setOther (by simpa [Value.ownBlock] using hne2) _
    refine hset.congr fun j hj => ?_
    rw [sum_add M p hM j]
    have hb := sum_bounds M j
    have hjn : j ≤ 65536 := by unfold len1 at hj; split at hj <;> omega
    by_cases hh : hit p j = true
    · rw [if_pos hh, if_pos hh]
      congr 1
      unfold wrap64
      omega
    · rw [if_neg hh, if_neg hh]
  · refine (hRow5.set p _).congr fun j hj => ?_
    by_cases e : j = p <;> simp [turn, e]

theorem inv_sub {w0 w w5 w6 : World} {n S R p : Nat} {M : Nat → Bool} {v : Value} (hn : n ≤ 65536) (hp : p < n) (hM : M p = true) (hS : w0.heap.size ≤ S) (hR : w0.heap.size ≤ R) (hSR : S ≠ R)
    (hV : Vec w w0.heap.size 3 1 v (len1 n) (fun j => .int .i64 (sumF M j))) (hne1 : v.ownBlock ≠ some S) (hne2 : v.ownBlock ≠ some R) (hRow : w.rowIs R 4 n (fun i => .bool (M i))) (hbel : Below w0.heap.size w0 w)
    (hV5 : Vec w5 w0.heap.size 3 1 v (len1 n) (fun j => .int .i64 (if hit p j = true then wrap64 (sumF M j + -1) else sumF M j))) (hR5 : w5.rowIs S 26 2 (rkF v (wrap64 ((cnt M n : Int) + -1)))) (hK : Kept (S :: v.ownBlock.toList) w w5)
    (h6 : w6 = w5.setCell ⟨R, p, none⟩ (.bool false)) : Inv w0 w6 n S R (turn M p false) := by
  have hRow5 := hK.row hRow (by
    intro hm
    rcases List.mem_cons.1 hm with h | h
    · exact hSR h.symm
    · exact hne2 (by simpa using h))
  have hbel5 : Below w0.heap.size w0 w5 := kept_below hbel hK hbel.size (by
    intro b' hm
    rcases List.mem_cons.1 hm with h | h
    · omega
    · rcases hV.shape with ⟨h1, _⟩ | ⟨b2, c2, h1, hBb, _⟩
      · rw [h1] at h; simp [Value.ownBlock] at h
      · rw [h1] at h; simp [Value.ownBlock] at h; omega)
  have hc := cnt_le M n
  have e1 : wrap64 ((cnt M n : Int) + -1) = (cnt (turn M p false) n : Int) := by
    have := cnt_sub M p hM n
    rw [if_pos hp] at this
    unfold wrap64
    omega
  rw [e1] at hR5
  subst h6
  refine ⟨v, ?_, hR5.setOther (by simpa using hSR) _, hne1, hne2, ?_, hbel5.setCell (by simpa using hR) _⟩
  · have hset : Vec (w5.setCell ⟨R, p, none⟩ (.bool false)) w0.heap.size 3 1 v (len1 n) (fun j => .int .i64 (if hit p j = true then wrap64 (sumF M j + -1) else sumF M j)) := by
      rcases hV5.shape with ⟨h1, h2⟩ | ⟨b2, c2, h1, _⟩
      · rw [h1, h2]; exact Vec.nil _ _ _ _ _
      · rw [h1] at hV5 hne2 ⊢
        exact hV5.setOther (by simpa [Value.ownBlock] using hne2) _
    refine hset.congr fun j hj => ?_
    rw [sum_sub M p hM j]
    have hb := sum_bounds M j
    have hjn : j ≤ 65536 := by unfold len1 at hj; split at hj <;> omega
    by_cases hh : hit p j = true
    · rw [if_pos hh, if_pos hh]
      congr 1
      unfold wrap64
      omega
    · rw [if_neg hh, if_neg hh]
  · refine (hRow5.set p _).congr fun j hj => ?_
    by_cases e : j = p <;> simp [turn, e]

set_option maxRecDepth 100000 in
set_option maxHeartbeats 1000000 in
theorem walkR (at0 : Option Addr) (n c0 b off : Nat) (Fl : Nat → Bool) (at1 : Option Addr) (m c1 b1 off1 : Nat) (Tg : Nat → Int) (w : World)
    (ha0 : 0 < n → at0 = some ⟨b, off, none⟩ ∧ b < w.heap.size) (hc0 : ∀ i, i < n → w.cell? ⟨b, off + i, none⟩ = some (.bool (Fl i)))
    (ha1 : 0 < m → at1 = some ⟨b1, off1, none⟩ ∧ b1 < w.heap.size) (hc1 : ∀ i, i < m → w.cell? ⟨b1, off1 + i, none⟩ = some (.int .u16 (Tg i))) (hT : ∀ i, i < m → 0 ≤ Tg i ∧ Tg i ≤ 65535)
    (hn : n ≤ 65536) (hm : m ≤ 65536) :
    Calls Yba.prog 4 #[.slice at0 n c0, .slice at1 m c1] w fun e w' => e = .returned (.bool true) ∧ Below w.heap.size w w' := by
  have HA0 := hid ha0
  have HC0 := hid hc0
  have HA1 := hid ha1
  have HC1 := hid hc1
  have HT := hid hT
  clear ha0 hc0 ha1 hc1 hT
  have hd1 : decide ((65536 : Int) < (n : Int)) = false := decide_eq_false (by omega)
  have hd2 : decide ((65536 : Int) < (m : Int)) = false := decide_eq_false (by omega)
  have hmk := make30 n (by omega)
  have hst := rk_start w (.slice none 0 0) 0
  go_enter Yba.func4, Yba.ntmps4
  go_wp2
  go_loopw [7] (fun i wr => ∃ (k : Nat) (v : Value), k ≤ n ∧ i = .int .i64 k ∧ Vec wr w.heap.size 3 1 v (len1 k) (fun _ => .int .i64 0) ∧ wr.rowIs w.heap.size 26 2 (rkF v 0) ∧ v.ownBlock ≠ some w.heap.size ∧ Below w.heap.size w wr) (fun i _ => n - (intOf i).toNat)
  case atStart => exact ⟨0, _, Nat.zero_le _, rfl, Vec.nil _ _ _ _ _, hst, by simp [Value.ownBlock], (Below.refl _ _).alloc (Nat.le_refl _) _⟩
  case round =>
    obtain ⟨k, v, hk, rfl, hV, hR, hne, hbel⟩ := hrel
    clear hst
    have hz := hbel.size
    by_cases hkn : k < n
    · have hg := grow_any w.heap.size w.heap.size v (len1 k) 0 wr (by unfold len1; split <;> omega) hz (Nat.le_refl _) hR hV hne
      go_wp2_with (go_at_call 8; refine hg.mono ?_; rintro e w2 ⟨rfl, v2, hV2, hR2, hne2, hbel2⟩)
      rw [len1_step] at hV2
      go_roundw
      case rel => exact ⟨k + 1, v2, by omega, by go_num, hV2, hR2, hne2, hbel.trans hbel2⟩
      case measure => simp [intOf]; omega
    · obtain rfl : k = n := by omega
      obtain ⟨w1, hw1⟩ : ∃ w1, w1 = wr := ⟨_, rfl⟩
      subst hw1
      have hlt := hR.lt
      have hI : Inv w (w1.alloc (.cells (madeCells #[.bool false] k) 4)) k w.heap.size w1.heap.size (fun j => decide (j < 0) && Fl j) := by
        have e0 : (fun j => decide (j < 0) && Fl j) = fun _ => false := by funext j; simp
        rw [e0]
        refine ⟨v, (hV.congr fun j _ => by rw [sum_none]).alloc _, by rw [cnt_none]; exact hR.alloc _, hne, ?_, (rowIs_madeN w1 #[.bool false] k 4).congr fun j hj => by simp [Nat.mod_one], hbel.alloc hz _⟩
        rcases hV.shape with ⟨h1, _⟩ | ⟨b2, c2, h1, _, h2, _⟩
        · rw [h1]; simp [Value.ownBlock]
        · rw [h1]; simp [Value.ownBlock]; omega
      clear hV hR hne hbel
      go_wp2
      go_loopw [9] (fun i wr => ∃ q : Nat, q ≤ k ∧ i = .int .i64 q ∧ Inv w wr k w.heap.size w1.heap.size (fun j => decide (j < q) && Fl j)) (fun i _ => k - (intOf i).toNat)
      case atStart => exact ⟨0, Nat.zero_le _, rfl, hI⟩
      case round =>
        obtain ⟨q, hq, rfl, v2, hV2, hR2, hne2, hneR, hRow2, hbel2⟩ := hrel
        clear hI
        by_cases hqk : q < k
        · obtain ⟨rfl, hb⟩ := HA0.out (by omega)
          have g0 := (hbel2.cell (p := ⟨b, off + q, none⟩) hb).trans (HC0.out q hqk)
          have hMq : (fun j => decide (j < q) && Fl j) q = false := by simp
          have eM : ∀ bb : Bool, Fl q = bb → (fun j => decide (j < q + 1) && Fl j) = turn (fun j => decide (j < q) && Fl j) q bb := by
            intro bb hbb
            funext j
            by_cases e : j = q
            · subst e; simp [turn, hbb]
            · have : j < q ↔ j < q + 1 := by omega
              simp [turn, e, this]
          have EM := hid eM
          clear eM
          have hl1 : len1 k ≤ 65537 := by unfold len1; split <;> omega
          by_cases hf : Fl q = true
          · rw [hf] at g0
            have hadd := add_any w.heap.size w.heap.size v2 (len1 k) q _ _ wr (by omega) (by omega) hR2 hV2 hne2
            go_wp2_with (go_at_call 9; refine hadd.mono ?_; rintro e w5 ⟨rfl, hV5, hR5, hK5, hz5⟩; have hr5 := (hK5.row hRow2 (by intro hm; rcases List.mem_cons.1 hm with h | h; omega; exact hneR (by simpa using h))).cell hqk; have hf5 := (hK5.row hRow2 (by intro hm; rcases List.mem_cons.1 hm with h | h; omega; exact hneR (by simpa using h))).frozen q)
            go_roundw
            case rel =>
              refine ⟨q + 1, by omega, by go_num, ?_⟩
              rw [EM.out true hf]
              exact inv_add hn hqk hMq (Nat.le_refl _) (by omega) (by omega) hV2 hne2 hneR hRow2 hbel2 hV5 hR5 hK5 rfl
            case measure => simp [intOf]; omega
          · have hf' : Fl q = false := by simpa using hf
            rw [hf'] at g0
            go_wp2
            go_roundw
            case rel =>
              refine ⟨q + 1, by omega, by go_num, ?_⟩
              have e2 : (fun j => decide (j < q + 1) && Fl j) = fun j => decide (j < q) && Fl j := by
                rw [EM.out false hf']
                funext j
                by_cases e : j = q <;> simp [turn, e]
              rw [e2]
              exact ⟨v2, hV2, hR2, hne2, hneR, hRow2, hbel2⟩
            case measure => simp [intOf]; omega
        · obtain rfl : q = k := by omega
          clear hqk
          have hI2 : Inv w wr q w.heap.size w1.heap.size (fun j => decide (j < q) && Fl j) := ⟨v2, hV2, hR2, hne2, hneR, hRow2, hbel2⟩
          clear hV2 hR2 hne2 hneR hRow2 hbel2
          obtain ⟨Bq, hBq⟩ : ∃ Bq : Bool, decide (0 < q) = Bq := ⟨_, rfl⟩
          go_upto_if 52 with fail
          have HBq := hid hBq
          clear hBq
          go_cut [] from 15 to 79 (fun wx => ∃ M, Inv w wx q w.heap.size w1.heap.size M)
          case first =>
            cases Bq with
            | true =>
              have hq0 : 0 < q := by have := of_decide_eq_true HBq.out; omega
              go_wp2
              go_loopw [55] (fun i wr => ∃ (j : Nat) (M : Nat → Bool), j ≤ m ∧ i = .int .i64 j ∧ Inv w wr q w.heap.size w1.heap.size M) (fun i _ => m - (intOf i).toNat)
              case atStart => exact ⟨0, _, Nat.zero_le _, rfl, hI2⟩
              case round =>
                obtain ⟨j, M, hj, rfl, v3, hV3, hR3, hne3, hneR3, hRow3, hbel3⟩ := hrel
                clear hI2
                by_cases hjm : j < m
                · obtain ⟨rfl, hb⟩ := HA1.out (by omega)
                  have g0 := (hbel3.cell (p := ⟨b1, off1 + j, none⟩) hb).trans (HC1.out j hjm)
                  obtain ⟨t0, t1⟩ := HT.out j hjm
                  obtain ⟨x, hx, hxq⟩ : ∃ x : Nat, Tg j % (q : Int) = (x : Int) ∧ x < q := by
                    have h1 := Int.emod_nonneg (Tg j) (show (q : Int) ≠ 0 by omega)
                    have h2 := Int.emod_lt_of_pos (Tg j) (show (0 : Int) < (q : Int) by omega)
                    exact ⟨(Tg j % (q : Int)).toNat, by omega, by omega⟩
                  have r0 := hRow3.cell hxq
                  have hl1 : len1 q ≤ 65537 := by unfold len1; split <;> omega
                  by_cases hMx : M x = true
                  · rw [hMx] at r0
                    have hrem := remove_any w.heap.size w.heap.size v3 (len1 q) x _ _ wr (by omega) (by omega) hR3 hV3 hne3
                    go_wp2_with (go_at_call 10; refine hrem.mono ?_; rintro e w5 ⟨rfl, hV5, hR5, hK5, hz5⟩; have hr5 := (hK5.row hRow3 (by intro hm; rcases List.mem_cons.1 hm with h | h; omega; exact hneR3 (by simpa using h))).cell hxq; have hf5 := (hK5.row hRow3 (by intro hm; rcases List.mem_cons.1 hm with h | h; omega; exact hneR3 (by simpa using h))).frozen x)
                    go_roundw
                    case rel => exact ⟨j + 1, _, by omega, by go_num, inv_sub hn hxq hMx (Nat.le_refl _) (by omega) (by omega) hV3 hne3 hneR3 hRow3 hbel3 hV5 hR5 hK5 rfl⟩
                    case measure => simp [intOf]; omega
                  · have hMx' : M x = false := by simpa using hMx
                    rw [hMx'] at r0
                    have hadd := add_any w.heap.size w.heap.size v3 (len1 q) x _ _ wr (by omega) (by omega) hR3 hV3 hne3
                    go_wp2_with (go_at_call 9; refine hadd.mono ?_; rintro e w5 ⟨rfl, hV5, hR5, hK5, hz5⟩; have hr5 := (hK5.row hRow3 (by intro hm; rcases List.mem_cons.1 hm with h | h; omega; exact hneR3 (by simpa using h))).cell hxq; have hf5 := (hK5.row hRow3 (by intro hm; rcases List.mem_cons.1 hm with h | h; omega; exact hneR3 (by simpa using h))).frozen x)
                    go_roundw
                    case rel => exact ⟨j + 1, _, by omega, by go_num, inv_add hn hxq hMx' (Nat.le_refl _) (by omega) (by omega) hV3 hne3 hneR3 hRow3 hbel3 hV5 hR5 hK5 rfl⟩
                    case measure => simp [intOf]; omega
                · go_wp2
                  go_meet
                  case rel => exact ⟨M, v3, hV3, hR3, hne3, hneR3, hRow3, hbel3⟩
            | false =>
              go_wp2
              go_meet
              case rel => exact ⟨_, hI2⟩
          case rest =>
            obtain ⟨M, v3, hV3, hR3, hne3, hneR3, hRow3, hbel3⟩ := hcut
            clear hI2
            have hcnt := count_any w.heap.size v3 _ wc hR3
            go_wp2
            go_loop [13, 14] (fun kk ii => ∃ i : Nat, i ≤ q ∧ ii = .int .i64 i ∧ kk = .int .i64 (cnt M i : Int)) (fun _ ii => q - (intOf ii).toNat)
            case atStart => exact ⟨0, Nat.zero_le _, rfl, rfl⟩
            case round =>
              obtain ⟨i, hi, rfl, rfl⟩ := hrel
              have hci := cnt_le M i
              by_cases hiq : i < q
              · have r0 := hRow3.cell hiq
                by_cases hMi : M i = true
                · rw [hMi] at r0
                  have hl1 : len1 q = q + 1 := by unfold len1; rw [if_neg (by omega)]
                  rw [hl1] at hV3
                  have hat := at_any w.heap.size w.heap.size v3 q i M _ wc hn hiq hMi hR3 hV3
                  have hii : ((i : Int) != (i : Int)) = false := by simp
                  go_wp2_with (go_at_call 11; refine hat.mono ?_; rintro e w' ⟨rfl, hw'⟩; rw [hw']; clear hw')
                  go_round
                  case rel => exact ⟨i + 1, by omega, by go_num, by simp [cnt, hMi]⟩
                  case measure => simp [intOf]; omega
                · have hMi' : M i = false := by simpa using hMi
                  rw [hMi'] at r0
                  go_wp2
                  go_round
                  case rel => exact ⟨i + 1, by omega, by go_num, by simp [cnt, hMi']⟩
                  case measure => simp [intOf]; omega
              · obtain rfl : i = q := by omega
                go_wp2_with (go_at_call 12; refine hcnt.mono ?_; rintro e w' ⟨rfl, hw'⟩; rw [hw']; clear hw')
                go_ret
                exact ⟨by simp, hbel3⟩

set_option maxRecDepth 100000 in
theorem walkR_long (at0 at1 : Option Addr) (n c0 m c1 : Nat) (w : World) (h : 65536 < n ∨ 65536 < m) :
    Calls Yba.prog 4 #[.slice at0 n c0, .slice at1 m c1] w fun e w' => e = .returned (.bool true) ∧ Below w.heap.size w w' := by
  by_cases h1 : 65536 < n
  · have hd1 : decide ((65536 : Int) < (n : Int)) = true := decide_eq_true (by omega)
    clear h
    go_enter Yba.func4, Yba.ntmps4
    go_wp2
    go_ret
    exact ⟨rfl, Below.refl _ _⟩
  · have h2 : 65536 < m := by omega
    have hd1 : decide ((65536 : Int) < (n : Int)) = false := decide_eq_false (by omega)
    have hd2 : decide ((65536 : Int) < (m : Int)) = true := decide_eq_true (by omega)
    clear h
    go_enter Yba.func4, Yba.ntmps4
    go_wp2
    go_ret
    exact ⟨rfl, Below.refl _ _⟩

end Go.Proofs.Ybulkgbai
