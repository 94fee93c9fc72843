import Derived.Test.YbulkgaioSettle
namespace Go.Proofs.Ybulkgaio
open Go.RowKit Go.Zz

theorem row_set_u8 {wr : World} {b M : Nat} {F : Nat → Int} (h : wr.rowIs b 5 M (fun i => .int .u8 (F i))) (q : Nat) (x : Int) :
    ∃ F' : Nat → Int, (wr.setCell ⟨b, q, none⟩ (.int .u8 x)).rowIs b 5 M (fun i => .int .u8 (F' i)) :=
  ⟨fun j => if j = q then x else F j, (h.set q _).congr fun j _ => by by_cases e : j = q <;> simp [e]⟩

set_option maxRecDepth 100000 in
set_option maxHeartbeats 2000000 in
theorem walkC (at0 : Option Addr) (L c0 ab ao : Nat) (N V : Nat → ByteArray) (Ln : Nat → Int) (at1 : Option Addr) (M c1 vb vo : Nat) (U : Nat → Int) (bd : Bool) (oL : Int) (lg : Bool) (ln : Int) (w : World)
    (ha0 : 0 < L → at0 = some ⟨ab, ao, none⟩ ∧ ab < w.heap.size)
    (k0 : ∀ i, i < L → w.cell? ⟨ab, ao + i * 3, none⟩ = some (.string (N i))) (k1 : ∀ i, i < L → w.cell? ⟨ab, ao + i * 3 + 1, none⟩ = some (.string (V i))) (k2 : ∀ i, i < L → w.cell? ⟨ab, ao + i * 3 + 2, none⟩ = some (.int .i64 (Ln i)))
    (ha1 : 0 < M → at1 = some ⟨vb, vo, none⟩ ∧ vb < w.heap.size) (ku : ∀ i, i < M → w.cell? ⟨vb, vo + i, none⟩ = some (.int .u8 (U i))) (hnil : at1 = none → M = 0 ∧ c1 = 0) (hLM : L + M ≤ 1048576) :
    Calls Yba.prog 3 #[.slice at0 L c0, .slice at1 M c1, .bool bd, .int .i64 oL, .bool lg, .int .i64 ln] w fun e w' => e = .returned (.bool true) ∧ Below w.heap.size w w' := by
  have HA0 : Hid (0 < L → at0 = some ⟨ab, ao, none⟩ ∧ ab < w.heap.size) := ha0
  have H0 : Hid (∀ i, i < L → w.cell? ⟨ab, ao + i * 3, none⟩ = some (.string (N i))) := k0
  have H1 : Hid (∀ i, i < L → w.cell? ⟨ab, ao + i * 3 + 1, none⟩ = some (.string (V i))) := k1
  have H2 : Hid (∀ i, i < L → w.cell? ⟨ab, ao + i * 3 + 2, none⟩ = some (.int .i64 (Ln i))) := k2
  have HA1 : Hid (0 < M → at1 = some ⟨vb, vo, none⟩ ∧ vb < w.heap.size) := ha1
  have HU : Hid (∀ i, i < M → w.cell? ⟨vb, vo + i, none⟩ = some (.int .u8 (U i))) := ku
  have HNil : Hid (at1 = none → M = 0 ∧ c1 = 0) := hnil
  clear ha0 k0 k1 k2 ha1 ku hnil
  -- what 'string(value)' gives in whatever later world
  have HCV : Hid (∀ wx : World, Below w.heap.size w wx → (convert 23 9 (.slice at1 M c1)).run Yba.prog wx = .ok (.string (strOf U M)) wx) := fun wx hb =>
    conv_any wx at1 M c1 vb vo U (fun h => (HA1.out h).1) (fun i hi => (hb.cell (p := ⟨vb, vo + i, none⟩) (HA1.out (by omega)).2).trans (HU.out i hi)) (fun h => (HNil.out h).1)
  have hd1 : decide ((1048576 : Int) < (L : Int) + (M : Int)) = false := decide_eq_false (by omega)
  have hmk := make28 L (by omega)
  have hst := at_start w N V Ln L
  go_enter Yba.func3, Yba.ntmps3
  go_wp2
  go_loopw [32] (fun i wr => ∃ k : Nat, k ≤ L ∧ i = .int .i64 k ∧ wr.rowIs w.heap.size 28 (L * 3) (atF N V Ln k) ∧ Below w.heap.size w wr) (fun i _ => L - (intOf i).toNat)
  case atStart => exact ⟨0, Nat.zero_le _, rfl, hst, (Below.refl _ _).alloc (Nat.le_refl _) _⟩
  case round =>
    obtain ⟨k, hk, rfl, hrow, hbel⟩ := hrel
    clear hst
    have hlt := hrow.lt
    by_cases hkL : k < L
    · obtain ⟨rfl, hab⟩ := HA0.out (by omega)
      have g0 := (hbel.cell (p := ⟨ab, ao + k * 3, none⟩) hab).trans (H0.out k hkL)
      have g1 := (hbel.cell (p := ⟨ab, ao + k * 3 + 1, none⟩) hab).trans (H1.out k hkL)
      have g2 := (hbel.cell (p := ⟨ab, ao + k * 3 + 2, none⟩) hab).trans (H2.out k hkL)
      have r0 := hrow.cell (i := k * 3) (by omega)
      have r1 := hrow.cell (i := k * 3 + 1) (by omega)
      have r2 := hrow.cell (i := k * 3 + 2) (by omega)
      have f0 := hrow.frozen (k * 3)
      have f1 := hrow.frozen (k * 3 + 1)
      have f2 := hrow.frozen (k * 3 + 2)
      go_wp2
      go_roundw
      case rel => exact ⟨k + 1, by omega, by go_num, (at_step hrow).alloc _, (((hbel.setCell (by simp) _).setCell (by simp) _).setCell (by simp) _).alloc (by simp; omega) _⟩
      case measure => simp [intOf]; omega
    · obtain rfl : k = L := by omega
      go_upto_region 9 with fail
      obtain ⟨B, hB⟩ : ∃ B : Bool, B = decide (bd = true ∧ k = 0) := ⟨_, rfl⟩
      have HB : Hid (B = decide (bd = true ∧ k = 0)) := hB
      clear hB
      go_cut [53] from 21 to 52 (fun v wx => v = .bool B ∧ wr = wx)
      case first =>
        cases bd with
        | true =>
          by_cases h2 : k = 0
          · subst h2
            go_wp2
            go_meet
            case rel => exact ⟨by rw [HB.out]; simp, rfl⟩
          · have h2' : ((k : Int) == 0) = false := beq_eq_false_iff_ne.2 (by omega)
            go_wp2
            go_meet
            case rel => exact ⟨by rw [HB.out]; simp [h2], rfl⟩
        | false =>
          go_wp2
          go_meet
          case rel => exact ⟨by rw [HB.out]; simp, rfl⟩
      case rest =>
        obtain ⟨rfl, rfl⟩ := hcut
        obtain ⟨n, N', V', Ln', HP⟩ : ∃ (n : Nat) (N' V' : Nat → ByteArray) (Ln' : Nat → Int), Hid (if B = true then n = 1 ∧ N' = (fun _ => ⟨#[120]⟩) ∧ V' = (fun _ => ⟨#[111, 108, 100]⟩) ∧ Ln' = (fun _ => 1) else n = k ∧ N' = N ∧ V' = V ∧ Ln' = Ln) := by
          cases B
          · exact ⟨k, N, V, Ln, rfl, rfl, rfl, rfl⟩
          · exact ⟨1, _, _, _, rfl, rfl, rfl, rfl⟩
        go_upto_if 53 with fail
        go_cut [13] from 21 to 57 (fun v wx => ∃ g cap, v = .slice (some ⟨g, 0, none⟩) n cap ∧ Vec wx w.heap.size 28 3 (.slice (some ⟨g, 0, none⟩) n cap) n (atF N' V' Ln' n) ∧ Below w.heap.size w wx)
        case first =>
          cases B with
          | false =>
            obtain ⟨rfl, rfl, rfl, rfl⟩ := HP.out
            go_wp2
            go_meet
            case rel => exact ⟨_, _, rfl, Vec.of_row hrow (Nat.le_refl _) (by unfold maxLen; omega), hbel⟩
          | true =>
            obtain ⟨rfl, rfl, rfl, rfl⟩ := HP.out
            obtain ⟨rfl, rfl⟩ := of_decide_eq_true HB.out.symm
            obtain ⟨g, cap, w2, hap, hV, hgr, hat, hBg⟩ := run_append_vec Yba.prog (wr.alloc (.cells #[.string ⟨#[120]⟩, .string ⟨#[111, 108, 100]⟩, .int .i64 1] 28)) w.heap.size 24 24 28 _ 3 40 Yba.underlying24 Yba.info28 rfl (by omega)
              (.slice (some ⟨w.heap.size, 0, none⟩) 0 0) 0 (atF N V Ln 0) ((Vec.of_row hrow (Nat.le_refl _) (Nat.zero_le _)).alloc _) ⟨wr.heap.size, 0, none⟩ 1 1 (by omega) (atF (fun _ => ⟨#[120]⟩) (fun _ => ⟨#[111, 108, 100]⟩) (fun _ => 1) 1) (atF (fun _ => ⟨#[120]⟩) (fun _ => ⟨#[111, 108, 100]⟩) (fun _ => 1) 1)
              (fun j hj => by
                have : j = 0 ∨ j = 1 ∨ j = 2 := by omega
                rcases this with rfl | rfl | rfl <;> simp [add_zero_plain, atF]) (fun j hj => at_one _ _ _ _ _) (fun j hj => by omega) (fun j hj => by simp) (by unfold maxLen; omega) (by omega) (by simp; omega)
            have hb2 : Below w.heap.size w w2 := (hbel.alloc (by omega) _).grown hgr (by simp; omega) (fun k hk => by simp [Value.ownBlock] at hk; omega)
            have HAP := hid hap
            clear hat hgr hap
            go_wp2_with (at_builtin; refine wpList_append_run rfl (.tmp 54) (.tmp 56) 24 24 rfl rfl rfl rfl HAP.out ?_)
            go_meet
            case rel => exact ⟨_, _, rfl, hV, hb2⟩
        case rest =>
          obtain ⟨g, cap, rfl, hV, hbel2⟩ := hcut
          obtain ⟨w1, hw1⟩ : ∃ w1, w1 = wc := ⟨_, rfl⟩
          subst hw1
          have hn : n ≤ 1048577 := by
            have := HP.out
            split at this <;> omega
          have hnb : bd = true → 0 < n := by
            intro hbd
            have h1 := HP.out
            by_cases hBt : B = true
            · rw [if_pos hBt] at h1; omega
            · rw [if_neg hBt] at h1
              have h2 : B = false := by simpa using hBt
              have h3 := of_decide_eq_false (HB.out.symm.trans h2)
              have h4 : ¬ k = 0 := fun h => h3 ⟨hbd, h⟩
              omega
          clear HP HB hrow hbel hmk
          have hbel2s := hbel2.size
          have hmk2 := make28 n hn
          have hg := hV.lt
          obtain ⟨w2, hcp, hWr, hgr2, hz2⟩ := run_copy_rows_sized Yba.prog (w1.alloc (.cells (madeCells #[.string ⟨#[]⟩, .string ⟨#[]⟩, .int .i64 0] (n * 3)) 28)) 24 24 3 28 Yba.underlying24 3 Yba.size28 w1.heap.size n n (some ⟨g, 0, none⟩) cap 28 (atF N' V' Ln' 0) (atF N' V' Ln' n)
            (at_start w1 _ _ _ _) (fun _ => ⟨_, rfl, fun j hj => by rw [add_zero_plain]; exact (hV.alloc _).cell hj⟩) (fun j _ => at_one _ _ _ _ _)
          replace hz2 : w2.heap.size = w1.heap.size + 1 := by rw [hz2, World.size_alloc]
          have hV2 := (hV.alloc _).kept hgr2 (.inr (by simp [Value.ownBlock]; omega))
          have hbel3 : Below w.heap.size w w2 := (hbel2.alloc hbel2.size _).grown hgr2 (by have := hbel2.size; simp; omega) (fun k hk => by cases hk; exact hbel2.size)
          clear hgr2 hV
          go_upto_if 64 with fail
          clear hcp
          go_cut [] from 58 to 72 (fun wx => wx.rowIs w1.heap.size 28 (n * 3) (atF N' (if bd = true then lastV V' n (strOf U M) else V') Ln' n) ∧ Vec wx w.heap.size 28 3 (.slice (some ⟨g, 0, none⟩) n cap) n (atF N' V' Ln' n) ∧ Below w.heap.size w wx ∧ wx.heap.size = w1.heap.size + 1)
          case first =>
            cases bd with
            | false =>
              go_wp2
              go_meet
              case rel => exact ⟨by simpa using hWr, hV2, hbel3, hz2⟩
            | true =>
              have h0 := hnb rfl
              have hcv := HCV.out w2 hbel3
              have r1 := hWr.cell (i := (n - 1) * 3 + 1) (by omega)
              have f1 := hWr.frozen ((n - 1) * 3 + 1)
              have ei : ((n : Int) - 1) = ((n - 1 : Nat) : Int) := by omega
              go_wp2
              go_meet
              case rel =>
                refine ⟨?_, hV2.setOther (by simp; omega) _, hbel3.setCell (by simpa using hbel2.size) _, by simpa using hz2⟩
                simp only [if_true]
                exact (hWr.set ((n - 1) * 3 + 1) _).congr fun j hj => atF_last N' V' Ln' n _ h0 j hj
          case rest =>
            obtain ⟨hW3, hV3, hbel4, hz3⟩ := hcut
            obtain ⟨w3, hw3⟩ : ∃ w3, w3 = wc := ⟨_, rfl⟩
            subst hw3
            clear hWr hV2 hz2 hmk2 hbel3
            obtain ⟨Vw, hVw⟩ : ∃ Vw, Vw = (if bd = true then lastV V' n (strOf U M) else V') := ⟨_, rfl⟩
            have HVw := hid hVw
            rw [← hVw] at hW3
            clear hVw
            have hne := fun wx : World => run_neq_slice_nil_any (P := Yba.prog) wx 23 5 at1 M c1 0 0 Yba.underlying23
            have hmk5 := make5 M (by omega)
            go_upto_if 74 with fail
            go_cut [17] from 58 to 80 (fun v wx => ∃ av, v = .slice av M M ∧ av.isNone = at1.isNone ∧ (av = none → M = 0) ∧ (0 < M → av = some ⟨w1.heap.size + 1, 0, none⟩ ∧ wx.rowIs (w1.heap.size + 1) 5 M (fun i => .int .u8 (U i))) ∧
              wx.rowIs w1.heap.size 28 (n * 3) (atF N' Vw Ln' n) ∧ Vec wx w.heap.size 28 3 (.slice (some ⟨g, 0, none⟩) n cap) n (atF N' V' Ln' n) ∧ Below w.heap.size w wx ∧ w1.heap.size < wx.heap.size)
            case first =>
              cases at1 with
              | none =>
                obtain ⟨rfl, rfl⟩ := HNil.out rfl
                go_wp2
                go_meet
                case rel => exact ⟨none, rfl, rfl, by simp, fun h => absurd h (by omega), hW3, hV3, hbel4, by omega⟩
              | some x =>
                obtain ⟨w4, hcp, hR, hgr4, hz4⟩ := run_copy_rows_sized Yba.prog (w3.alloc (.cells (madeCells #[.int .u8 0] (M * 1)) 5)) 23 23 3 5 Yba.underlying23 1 Yba.size5 (w1.heap.size + 1) M M (some x) c1 5 (fun j => #[Value.int .u8 0][j % 1]!) (fun i => .int .u8 (U i))
                  (by have := rowIs_madeN w3 #[.int .u8 0] (M * 1) 5; rw [hz3] at this; exact this) (fun h => ⟨x, rfl, fun j hj => by
                    obtain ⟨h1, h2⟩ := HA1.out h
                    simp only [Option.some.injEq] at h1
                    subst h1
                    rw [add_off]
                    have h3 := ((hbel4.alloc hbel4.size (.cells (madeCells #[.int .u8 0] (M * 1)) 5)).cell (p := ⟨vb, vo + j, none⟩) h2).trans (HU.out j (by omega))
                    exact h3⟩) (fun j _ => rfl)
                replace hz4 : w4.heap.size = w1.heap.size + 2 := by rw [hz4, World.size_alloc, hz3]
                rw [Nat.mul_one] at hR hcp
                have hW5 := rowIs_grown (hW3.alloc _) hgr4 (by simp)
                have hV5 := (hV3.alloc _).kept hgr4 (.inr (by simp [Value.ownBlock]; omega))
                have hbel5 : Below w.heap.size w w4 := (hbel4.alloc hbel4.size _).grown hgr4 (by have := hbel4.size; simp; omega) (fun k hk => by cases hk; have := hbel4.size; omega)
                clear hgr4
                go_wp2
                go_meet
                case rel => exact ⟨_, rfl, rfl, (fun h => by cases h), (fun _ => ⟨rfl, hR⟩), hW5, hV5, hbel5, by omega⟩
            case rest =>
              obtain ⟨av, rfl, hav, havn, havp, hW6, hV6, hbel6, hlt6⟩ := hcut
              obtain ⟨w6, hw6⟩ : ∃ w6, w6 = wc := ⟨_, rfl⟩
              subst hw6
              have HAV := hid hav
              have HAVN := hid havn
              have HAVP := hid havp
              clear hav havn havp hne hmk5 hW3 hV3 hbel4 hz3 hbel2
              have hO := or_start w6 ln (.slice av M M) oL (.slice (some ⟨g, 0, none⟩) n cap) lg
              have hbel7 := hbel6.alloc hbel6.size (.cells #[.pointer none, .map none, .int .i64 ln, .slice none 0 0, .slice none 0 0, .slice av M M, .int .i64 oL, .slice (some ⟨g, 0, none⟩) n cap, .bool lg] 35)
              have hset := settle_u bd w6.heap.size g n cap w.heap.size (.slice av M M) (strOf U M) N' V' Ln' _ hn hnb (or_c7 hO) (or_c5 hO)
                (conv_any _ av M M (w1.heap.size + 1) 0 U (fun h => (HAVP.out h).1) (fun i hi => by rw [Nat.zero_add]; exact ((HAVP.out (by omega)).2.alloc _).drew.cell hi) HAVN.out) (hV6.alloc _)
              rw [← HVw.out] at hset
              have hW7 := hW6.alloc (.cells #[.pointer none, .map none, .int .i64 ln, .slice none 0 0, .slice none 0 0, .slice av M M, .int .i64 oL, .slice (some ⟨g, 0, none⟩) n cap, .bool lg] 35)
              have HR7 := hid (fun h : 0 < M => (HAVP.out h).2.alloc (.cells #[.pointer none, .map none, .int .i64 ln, .slice none 0 0, .slice none 0 0, .slice av M M, .int .i64 oL, .slice (some ⟨g, 0, none⟩) n cap, .bool lg] 35))
              have hg6 := hV6.lt
              clear hW6 hV6 hbel6
              go_wp2_with fail
              refine hset.mono ?_
              rintro e w8 ⟨rfl, hV8, hgr8⟩
              clear hset
              have hO8 := rowIs_grown hO hgr8 (by simp; omega)
              have hW8 := rowIs_grown hW7 hgr8 (by simp; omega)
              have HR8 := hid (fun h : 0 < M => rowIs_grown (HR7.out h) hgr8 (by simp; omega))
              have hbel8 : Below w.heap.size w w8 := hbel7.grown hgr8 hbel7.size (fun k hk => by cases hk; have := hV8.shape; rcases this with ⟨h, _⟩ | ⟨b, c, h, h', _⟩ <;> simp at h; omega)
              clear hO hW7 HR7 hbel7 hgr8
              have c0' := or_c0 hO8
              have c1' := or_c1 hO8
              have c2' := or_c2 hO8
              have c3' := or_c3 hO8
              have c4' := or_c4 hO8
              have c5' := or_c5 hO8
              have c6' := or_c6 hO8
              have c7' := or_c7 hO8
              have c8' := or_c8 hO8
              have hnm := fun wx : World => run_neq_map_nil (P := Yba.prog) wx 33 9 9 none Yba.underlying33
              have hns := fun wx : World => run_neq_slice_nil_any (P := Yba.prog) wx 23 5 none 0 0 0 0 Yba.underlying23
              have e1 : (ln != ln) = false := by simp
              have e2 : (oL != oL) = false := by simp
              have e3 : (lg != lg) = false := by simp
              go_wp2
              clear hnm hns e1 e2 e3 c0' c1' c2' c3' c4' c6' c8'
              go_loopw [155] (fun i wr => ∃ p s : Nat, p ≤ n ∧ i = .int .i64 p ∧ wr = w8.drewN s) (fun i _ => n - (intOf i).toNat)
              case atStart => exact ⟨0, 0, Nat.zero_le _, rfl, rfl⟩
              case round =>
                obtain ⟨p, s, hp, rfl, rfl⟩ := hrel
                by_cases hpn : p < n
                · have hpn' : (p : Int) < (n : Int) := by omega
                  have g0 := (hV8.cell (j := p * 3) (by omega)).trans (by rw [atF_0 _ _ _ _ _ hpn])
                  have g1 := (hV8.cell (j := p * 3 + 1) (by omega)).trans (by rw [atF_1 _ _ _ _ _ hpn])
                  have g2 := (hV8.cell (j := p * 3 + 2) (by omega)).trans (by rw [atF_2 _ _ _ _ _ hpn])
                  have e0 := (hW8.cell (i := p * 3) (by omega)).trans (by rw [atF_0 _ _ _ _ _ hpn])
                  have e1 := (hW8.cell (i := p * 3 + 1) (by omega)).trans (by rw [atF_1 _ _ _ _ _ hpn])
                  have e2 := (hW8.cell (i := p * 3 + 2) (by omega)).trans (by rw [atF_2 _ _ _ _ _ hpn])
                  go_wp2
                  go_quiet (fail)
                  go_wp2
                  go_roundw
                  case rel => exact ⟨p + 1, s + nq, by omega, by go_num, rfl⟩
                  case measure => simp [intOf]; omega
                · have hes := fun wx : World => Lib.run_eql_slice_nil (P := Yba.prog) wx 23 5 av M M 0 0 Yba.underlying23
                  have hes1 := fun wx : World => Lib.run_eql_slice_nil (P := Yba.prog) wx 23 5 at1 M c1 0 0 Yba.underlying23
                  have hnn : (av.isNone != at1.isNone) = false := by rw [HAV.out]; simp
                  have cvA : (convert 23 9 (.slice av M M)).run Yba.prog (w8.drewN s) = .ok (.string (strOf U M)) (w8.drewN s) :=
                    conv_any _ av M M (w1.heap.size + 1) 0 U (fun h => (HAVP.out h).1) (fun i hi => by rw [Nat.zero_add]; exact (HR8.out (by omega)).cell hi) HAVN.out
                  have cvB := HCV.out (w8.drewN s) (below_drewN hbel8 _)
                  go_wp2_with (go_at_call 5; refine (equal_any _ _ (strOf U M) _ cvA cvB).mono ?_; rintro e w' ⟨rfl, hw'⟩; rw [hw']; clear hw')
                  clear hes hes1 hnn cvA cvB
                  go_loopw [191] (fun i wr => ∃ p : Nat, p ≤ M ∧ i = .int .i64 p ∧ wr.cell? ⟨w6.heap.size, 7, none⟩ = some (.slice (some ⟨g, 0, none⟩) n cap) ∧ Vec wr w.heap.size 28 3 (.slice (some ⟨g, 0, none⟩) n cap) n (atF N' Vw Ln' n) ∧ Below w.heap.size w wr ∧
                    Hid (0 < M → ∃ F : Nat → Int, wr.rowIs (w1.heap.size + 1) 5 M (fun i => .int .u8 (F i)))) (fun i _ => M - (intOf i).toNat)
                  case atStart => exact ⟨0, Nat.zero_le _, rfl, c7', hV8, below_drewN hbel8 _, fun h => ⟨U, HR8.out h⟩⟩
                  case round =>
                    obtain ⟨q, hq, rfl, c7, hV9, hbel9, HF⟩ := hrel
                    by_cases hqM : q < M
                    · obtain ⟨rfl, hR6⟩ := HAVP.out (by omega)
                      obtain ⟨F, hF⟩ := HF.out (by omega)
                      have hlt7 := hR6.lt
                      have r0 := hF.cell hqM
                      have f0 := hF.frozen q
                      go_wp2
                      go_roundw
                      case rel =>
                        refine ⟨q + 1, by omega, by go_num, ?_, hV9.setOther (by simp; omega) _, hbel9.setCell (by simp; omega) _, fun _ => row_set_u8 hF q _⟩
                        rw [World.cell?_setCell_other _ _ _ _ (by simp <;> omega)]
                        exact c7
                      case measure => simp [intOf]; omega
                    · cases bd with
                      | false =>
                        go_wp2
                        go_quiet (fail)
                        go_wp2
                        go_ret
                        exact ⟨rfl, below_drewN hbel9 _⟩
                      | true =>
                        have h0 := hnb rfl
                        have hcv : ∀ q, (convert 23 9 (.slice at1 M c1)).run Yba.prog (wr.drewN q) = .ok (.string (strOf U M)) (wr.drewN q) := fun q => HCV.out (wr.drewN q) (below_drewN hbel9 _)
                        have g1 : wr.cell? ⟨g, (n - 1) * 3 + 1, none⟩ = some (.string (strOf U M)) := by
                          rw [hV9.cell (by omega), atF_1 _ _ _ _ _ (by omega), HVw.out]
                          simp [lastV]
                          omega
                        have hi1 : ((n : Int) - 1) < (n : Int) := by omega
                        have hi2 : (0 : Int) ≤ (n : Int) - 1 := by omega
                        go_wp2
                        go_quiet (fail)
                        go_wp2
                        go_ret
                        exact ⟨rfl, below_drewN hbel9 _⟩

set_option maxRecDepth 100000 in
theorem walkC_long (at0 at1 : Option Addr) (L c0 M c1 : Nat) (bd : Bool) (oL : Int) (lg : Bool) (ln : Int) (w : World) (hLM : 1048576 < L + M) (hs : L + M ≤ 9223372036854775807) :
    Calls Yba.prog 3 #[.slice at0 L c0, .slice at1 M c1, .bool bd, .int .i64 oL, .bool lg, .int .i64 ln] w fun e w' => e = .returned (.bool true) ∧ Below w.heap.size w w' := by
  have hd1 : decide ((1048576 : Int) < (L : Int) + (M : Int)) = true := decide_eq_true (by omega)
  go_enter Yba.func3, Yba.ntmps3
  go_wp2
  go_ret
  exact ⟨rfl, Below.refl _ _⟩

end Go.Proofs.Ybulkgaio
