import Derived.Test.YbulkgbaiDoorRound
import Derived.Deep.RegionHeld3
namespace Go.Proofs.YbulkgbaiDoor
open Go.RowKit Go.Zz Go.Maps

attribute [-go_sem] Builtin.append_

set_option maxRecDepth 100000 in
set_option maxHeartbeats 8000000 in
theorem walkB (self life nIn nOut st tm L c pb po : Nat) (at0 : Option Addr) (U : Nat → Int) (w : World) (hs : self < 4294967296) (hl : life < 4294967296) (hnI : nIn < 65536) (hnO : nOut < 65536) (hst : st < 256) (htm : tm < 256)
    (hL : L ≤ 1048576) (ha : 0 < L → at0 = some ⟨pb, po, none⟩) (hU : ∀ i, i < L → w.cell? ⟨pb, po + i, none⟩ = some (.int .u8 (U i))) (htab : Tab w) (hw0 : 0 < w.heap.size) :
    Calls Ybad.prog 3 #[.int .u32 (self : Int), .int .u32 (life : Int), .int .u16 (nIn : Int), .int .u16 (nOut : Int), .int .u8 (st : Int), .int .u8 (tm : Int), .slice at0 L c] w fun x w' => x = .returned (.bool true) ∧ Below w.heap.size w w' := by
  have hd1 : decide ((1048576 : Int) < (L : Int)) = false := decide_eq_false (by omega)
  have HA := hid ha
  have HU := hid hU
  have HTAB := hid htab
  clear ha hU htab
  go_enter Ybad.func3, Ybad.ntmps3
  go_upto_block 0 with fail
  obtain ⟨ni, hni, hnie⟩ : ∃ ni : Nat, ni < 300 ∧ ((nIn : Int) % 300) = (ni : Int) := ⟨nIn % 300, by omega, by omega⟩
  obtain ⟨no, hno, hnoe⟩ : ∃ no : Nat, no < 300 ∧ ((nOut : Int) % 300) = (no : Int) := ⟨nOut % 300, by omega, by omega⟩
  obtain ⟨k, hk7, hke⟩ : ∃ k : Nat, k ≤ 7 ∧ (1 + (st : Int) % 7) = (k : Int) := ⟨1 + st % 7, by omega, by omega⟩
  obtain ⟨tt, htt1, htt6, htte⟩ : ∃ tt : Nat, 1 ≤ tt ∧ tt ≤ 6 ∧ (1 + (tm : Int) % 6) = (tt : Int) := ⟨1 + tm % 6, by omega, by omega, by omega⟩
  rw [hnie, hnoe, hke, htte]
  clear hnie hnoe hke htte hd1
  obtain ⟨I, hI⟩ : ∃ I : Nat → Nat, ∀ i, I i = (self + (1 + i)) % 4294967296 := ⟨_, fun _ => rfl⟩
  obtain ⟨D, hD⟩ : ∃ D : Nat → Nat, ∀ i, D i = (self + (1 + i * k)) % 4294967296 := ⟨_, fun _ => rfl⟩
  have hIr : ∀ i, I i < 4294967296 := fun i => by rw [hI]; exact Nat.mod_lt _ (by omega)
  have HIr := hid hIr
  have HI := hid hI
  have HD := hid hD
  clear hI hD hIr
  go_cut [20, 22] from 22 to 64 (fun v _ wx => Vec wx w.heap.size 25 1 v ni (fun i => .int .u32 (I i : Int)) ∧ Below w.heap.size w wx)
  case first =>
    go_wp2_with fail
    go_loopw [22, 20] (fun i v wr => ∃ t : Nat, t ≤ ni ∧ i = .int .i64 t ∧ Vec wr w.heap.size 25 1 v t (fun i => .int .u32 (I i : Int)) ∧ Below w.heap.size w wr) (fun i _ _ => ni - (intOf i).toNat)
    case atStart => exact ⟨0, Nat.zero_le _, rfl, Vec.nil _ _ _ _ _, Below.refl _ _⟩
    case round =>
      obtain ⟨t, ht, rfl, hv, hb⟩ := hrel
      by_cases htn : t < ni
      · have q0 : ((self : Int) + (1 + (t : Int))) % 4294967296 = (I t : Int) := by
          have := HI.out t
          omega
        obtain ⟨va, vc, rfl, _⟩ := vec_slice hv
        obtain ⟨b3, cap3, w3, hap, hV3, hgr3, _, _⟩ := run_append_vec Ybad.prog (wr.alloc (.cells #[.int .u32 (I t : Int)] 25)) w.heap.size 26 26 25 _ 1 4 Ybad.underlying26 info25 rfl (by decide) _ t _ (hv.alloc _) ⟨wr.heap.size, 0, none⟩ 1 1 (by decide) (fun _ => .int .u32 (I t : Int)) (fun i => .int .u32 (I i : Int))
          (fun j hj => by (obtain rfl : j = 0 := by omega); rw [add_zero_plain]; simp) (fun _ _ => rfl) (fun _ _ => rfl) (fun j hj => by (obtain rfl : j = 0 := by omega); simp) (by unfold maxLen; omega) (by omega) (by rw [Deep.nblk_alloc]; have := hb.size; omega)
        have hb3 : Below w.heap.size w w3 := (hb.alloc hb.size _).grown hgr3 (by rw [Deep.nblk_alloc]; have := hb.size; omega) (fun q hq => (World.ownsRow.lt hv q hq).1)
        have HAP := hid hap
        have HV3 := hid hV3
        have HB3 := hid hb3
        clear hap hV3 hgr3 hb3 hv hb
        go_wp2_with (at_builtin; refine wpList_append_run rfl (.tmp 57) (.tmp 63) 26 26 rfl rfl rfl rfl HAP.out ?_)
        go_roundw
        case rel => exact ⟨t + 1, by omega, by go_num, HV3.out, HB3.out⟩
        case measure => simp [intOf]; omega
      · obtain rfl : t = ni := by omega
        go_wp2
        go_meet
        exact ⟨hv, hb⟩
  case rest =>
    obtain ⟨w1, hw1⟩ : ∃ w1, w1 = wc := ⟨_, rfl⟩
    subst hw1
    obtain ⟨hv1, hb1⟩ := hcut
    obtain ⟨ia, ic, rfl, hia⟩ := vec_slice hv1
    have HV1 := hid hv1
    have HB1 := hid hb1
    have HIA := hid hia
    clear hv1 hb1 hia
    go_upto_block 2 with fail
    go_cut [21, 23] from 23 to 79 (fun v _ wx => Vec wx w1.heap.size 25 1 v no (fun i => .int .u32 (D i : Int)) ∧ Below w1.heap.size w1 wx)
    case first =>
      go_wp2_with fail
      go_loopw [23, 21] (fun i v wr => ∃ t : Nat, t ≤ no ∧ i = .int .i64 t ∧ Vec wr w1.heap.size 25 1 v t (fun i => .int .u32 (D i : Int)) ∧ Below w1.heap.size w1 wr) (fun i _ _ => no - (intOf i).toNat)
      case atStart => exact ⟨0, Nat.zero_le _, rfl, Vec.nil _ _ _ _ _, Below.refl _ _⟩
      case round =>
        obtain ⟨t, ht, rfl, hv, hb⟩ := hrel
        by_cases htn : t < no
        · have hprb : t * k ≤ 2100 := Nat.le_trans (Nat.mul_le_mul (Nat.le_of_lt htn) hk7) (by omega)
          have q0 : ((self : Int) + (1 + (t : Int) * (k : Int))) % 4294967296 = (D t : Int) := by
            have := HD.out t
            rw [← Int.natCast_mul]
            omega
          have p0 : (0 : Int) ≤ (t : Int) * (k : Int) := by rw [← Int.natCast_mul]; omega
          have p1 : (t : Int) * (k : Int) ≤ 2100 := by rw [← Int.natCast_mul]; omega
          clear hprb
          obtain ⟨va, vc, rfl, _⟩ := vec_slice hv
          obtain ⟨b3, cap3, w3, hap, hV3, hgr3, _, _⟩ := run_append_vec Ybad.prog (wr.alloc (.cells #[.int .u32 (D t : Int)] 25)) w1.heap.size 26 26 25 _ 1 4 Ybad.underlying26 info25 rfl (by decide) _ t _ (hv.alloc _) ⟨wr.heap.size, 0, none⟩ 1 1 (by decide) (fun _ => .int .u32 (D t : Int)) (fun i => .int .u32 (D i : Int))
            (fun j hj => by (obtain rfl : j = 0 := by omega); rw [add_zero_plain]; simp) (fun _ _ => rfl) (fun _ _ => rfl) (fun j hj => by (obtain rfl : j = 0 := by omega); simp) (by unfold maxLen; omega) (by omega) (by rw [Deep.nblk_alloc]; have := hb.size; omega)
          have hb3 : Below w1.heap.size w1 w3 := (hb.alloc hb.size _).grown hgr3 (by rw [Deep.nblk_alloc]; have := hb.size; omega) (fun q hq => (World.ownsRow.lt hv q hq).1)
          have HAP := hid hap
          have HV3 := hid hV3
          have HB3 := hid hb3
          clear hap hV3 hgr3 hb3 hv hb
          go_wp2_with (at_builtin; refine wpList_append_run rfl (.tmp 70) (.tmp 78) 26 26 rfl rfl rfl rfl HAP.out ?_)
          go_roundw
          case rel => exact ⟨t + 1, by omega, by go_num, HV3.out, HB3.out⟩
          case measure => simp [intOf]; omega
        · obtain rfl : t = no := by omega
          go_wp2
          go_meet
          exact ⟨hv, hb⟩
    case rest =>
      obtain ⟨w2, hw2⟩ : ∃ w2, w2 = wc := ⟨_, rfl⟩
      subst hw2
      obtain ⟨hv2, hb2⟩ := hcut
      obtain ⟨oa, oc, rfl, hoa⟩ := vec_slice hv2
      have hb02 : Below w.heap.size w w2 := HB1.out.trans (below_le hb2 HB1.out.size)
      have HV2 := hid hv2
      have HB2 := hid hb2
      have HB02 := hid hb02
      have HOA := hid hoa
      clear hv2 hb2 hb02 hoa
      have hmk := fun w => run_make_any Ybad.prog 24 5 (.int .u8 0) #[.int .u8 0] 1 1 Ybad.underlying24 info5 rfl L (by omega) (by omega) w
      simp only [Nat.mul_one] at hmk
      go_upto_if 81 with fail
      go_cut [24, 81] from 81 to 87 (fun v _ wx => ((at0 = none ∧ v = .slice none 0 0) ∨ ∃ a bb, at0 = some a ∧ v = .slice (some ⟨bb, 0, none⟩) L L ∧ wx.rowIs bb 5 L (fun i => .int .u8 (U i)) ∧ w2.heap.size ≤ bb) ∧ Below w2.heap.size w2 wx)
      case first =>
        cases hat : at0 with
        | none =>
          subst hat
          go_wp2
          go_meet
          exact ⟨.inl ⟨trivial, rfl⟩, Below.refl _ _⟩
        | some a =>
          subst hat
          have hsrc : ∀ j, j < L → w2.cell? (a.add j) = some (.int .u8 (U j)) := fun j hj => by
            have h1 := HA.out (by omega)
            simp only [Option.some.injEq] at h1
            rw [h1, add_off]
            exact cell_grow HB02.out (HU.out j hj)
          obtain ⟨w3, hcp, hrow3, hgr3⟩ := run_copy_rows Ybad.prog (w2.alloc (.cells (madeCells #[.int .u8 0] L) 5)) 24 24 3 5 Ybad.underlying24 1 size5 w2.heap.size L L (some a) c 5 (fun j => #[Value.int .u8 0][j % 1]!) (fun i => .int .u8 (U i)) (by rw [Nat.mul_one]; exact rowIs_madeN w2 #[.int .u8 0] L 5)
            (fun _ => ⟨a, rfl, fun j hj => cell_grow (below_alloc _ _) (hsrc j (by omega))⟩) (fun _ _ => rfl)
          have HR3 := hid hrow3
          have HG3 := hid hgr3
          clear hrow3 hgr3 hsrc
          go_wp2
          go_meet
          refine ⟨.inr ⟨a, w2.heap.size, rfl, rfl, by simpa using HR3.out, Nat.le_refl _⟩, (below_alloc _ _).grown HG3.out (by rw [Deep.nblk_alloc]; omega) (fun q hq => by simp at hq; omega)⟩
      case rest =>
        obtain ⟨w3, hw3⟩ : ∃ w3, w3 = wc := ⟨_, rfl⟩
        subst hw3
        obtain ⟨hbf, hb3⟩ := hcut
        have hb03 : Below w.heap.size w w3 := HB02.out.trans (below_le hb3 HB02.out.size)
        have HBF := hid hbf
        have HB3 := hid hb3
        have HB03 := hid hb03
        clear hbf hb3 hb03 hmk
        go_upto_region 22 with fail
        refine wp_gen (fun w4 hw4 => ?_)
        have hO4 : w4.rowIs w3.heap.size 30 1 (fun _ => .slice none 0 0) := by
          rw [hw4]
          exact ⟨_, Deep.blk_alloc_new _ _, rfl, fun i hi => by (obtain rfl : i = 0 := by omega); rfl⟩
        have hb34 : Below w3.heap.size w3 w4 := by rw [hw4]; exact below_alloc _ _
        clear hw4
        have hb14 : Below w1.heap.size w1 w4 := HB2.out.trans (below_le (HB3.out.trans (below_le hb34 HB3.out.size)) HB2.out.size)
        have hb24 : Below w2.heap.size w2 w4 := HB3.out.trans (below_le hb34 HB3.out.size)
        have hb04 : Below w.heap.size w w4 := HB03.out.trans (below_le hb34 HB03.out.size)
        have hv14 : Vec w4 w.heap.size 25 1 (.slice ia ni ic) ni (fun i => .int .u32 (I i : Int)) := vec_grow HV1.out hb14
        have hv24 : Vec w4 w1.heap.size 25 1 (.slice oa no oc) no (fun i => .int .u32 (D i : Int)) := vec_grow HV2.out hb24
        have hib : ∃ ib, (0 < ni → ia = some ⟨ib, 0, none⟩) ∧ ∀ i, i < ni → w4.cell? ⟨ib, 0 + i, none⟩ = some (.int .u32 (I i : Int)) := by
          by_cases h : 0 < ni
          · obtain ⟨g, rfl⟩ := HIA.out h
            exact ⟨g, fun _ => rfl, fun i hi => by rw [Nat.zero_add]; exact hv14.cell (by omega)⟩
          · exact ⟨0, fun h' => absurd h' h, fun i hi => by omega⟩
        have hgb : ∃ gb, (0 < no → oa = some ⟨gb, 0, none⟩) ∧ ∀ i, i < no → w4.cell? ⟨gb, 0 + i, none⟩ = some (.int .u32 (D i : Int)) := by
          by_cases h : 0 < no
          · obtain ⟨g, rfl⟩ := HOA.out h
            exact ⟨g, fun _ => rfl, fun i hi => by rw [Nat.zero_add]; exact hv24.cell (by omega)⟩
          · exact ⟨0, fun h' => absurd h' h, fun i hi => by omega⟩
        obtain ⟨ib, hib1, hib2⟩ := hib
        obtain ⟨gb, hgb1, hgb2⟩ := hgb
        have htab4 : Tab w4 := HTAB.out.kept (Kept.of_below (S := []) hb04) (by simp) hw0
        have hnew := new_any self life ni ic no oc w3.heap.size (ko self life) ib 0 gb 0 ia oa I D w4 (by omega) (by omega) htab4 (by have := hb04.size; omega) hib1 hib2 (fun i _ => HIr.out i) hgb1 hgb2
        have HNEW := hid hnew
        have HO4 := hid hO4
        have HB34 := hid hb34
        have HB04 := hid hb04
        have HB24 := hid hb24
        have HV24 := hid hv24
        clear hnew hO4 hb34 hb14 hb24 hb04 hv14 hv24 hib1 hib2 hgb1 hgb2 htab4
        go_upto_block 4 with (go_at_call 4; refine HNEW.out.mono ?_; rintro x w5 ⟨eb, e, rfl, h1, h2, h3, h4, h5, h6, h7, h8, h9, h10, h11⟩; have N1 := hid h1; have N2 := hid h2; have N3 := hid h3; have N4 := hid h4; have N5 := hid h5; have N6 := hid h6; have N7 := hid h7; have N8 := hid h8; have N9 := hid h9; have N10 := hid h10; have N11 := hid h11; clear h1 h2 h3 h4 h5 h6 h7 h8 h9 h10 h11)
        have HLI0 : Hid (LI w5 w4.heap.size eb w3.heap.size (ko self life) self life ni no 0 D) := by
          refine ⟨e, .slice none 0 0, fun _ => .bool false, N2.out, N3.out, N4.out, N5.out, N6.out, N7.out, N8.out, fun h => by omega, N10.out, by rw [N11.out, Nat.zero_mul], ?_, ?_⟩
          · exact (Kept.of_below (S := []) N1.out).row HO4.out (by simp)
          · rw [Nat.zero_mul]
            exact Vec.nil _ _ _ _ _
        go_cut [27, 28, 29, 30, 31, 32] from 97 to 193 (fun _ _ _ _ _ _ wx => ∃ e, E wx eb e ∧ e.dl = true ∧ Below w3.heap.size w3 wx)
        case first =>
          go_wp2_with fail
          go_loopw [27, 28, 29, 30, 31, 32] (fun jv _ _ _ _ _ wr => ∃ q : Nat, q ≤ tt ∧ jv = .int .i64 ((q + 1 : Nat) : Int) ∧ LI wr w4.heap.size eb w3.heap.size (ko self life) self life ni no q D ∧ Below w3.heap.size w3 wr ∧ w4.heap.size ≤ wr.heap.size) (fun jv _ _ _ _ _ _ => tt + 1 - (intOf jv).toNat)
          case atStart => exact ⟨0, by omega, rfl, HLI0.out, HB34.out.trans (below_le N1.out HB34.out.size), N1.out.size⟩
          case round =>
            obtain ⟨q, hq, rfl, hli, hbr, hwr⟩ := hrel
            by_cases hqt : q < tt
            · have hrd := round_any wr w4.heap.size eb w3.heap.size self life ni no q L c at0 D w3 hli hs hl (by omega) (by omega) (by omega) hwr (Nat.le_refl _) HB34.out.size hbr
              obtain ⟨e0, logv, lf, hc0, _, _, _, _, _, _, _, _, _, hO0, hL0⟩ := hli
              obtain ⟨la, lc0, rfl, _⟩ := vec_slice hL0
              have c0 : wr.cell? ⟨w3.heap.size, 0, none⟩ = some (.slice la (q * (no + 1)) lc0) := hO0.cell (by omega)
              obtain ⟨n, hn⟩ : ∃ n, n = q * (no + 1) := ⟨_, rfl⟩
              have hnb : n ≤ 2000 := by rw [hn]; exact Nat.le_trans (Nat.mul_le_mul (show q ≤ 5 by omega) (show no + 1 ≤ 300 by omega)) (by omega)
              obtain ⟨s, hs1⟩ : ∃ s, s = q + 1 := ⟨_, rfl⟩
              rw [← hn] at c0 hrd
              rw [← hs1] at hrd ⊢
              have hsb : s ≤ 6 := by omega
              have hst2 : s ≤ tt := by omega
              unfold mv at hrd
              have hmsg := fun w => msg_any self life s at0 L c pb po HA.out w
              unfold mv at hmsg
              have HMSG := hid hmsg
              have HRD := hid hrd
              clear hmsg
              have HS := hid hs1
              have HQ := hid hqt
              have HNN := hid hn
              clear hrd hs1 hn hc0 hO0 hL0 hbr
              go_upto_region 30 with (first
                | (go_at_call 5; refine HRD.out.mono ?_; rintro x w6 ⟨rfl, g1, g2, g5, g3, g4⟩; have G1 := hid g1; have G2 := hid g2; have G3 := hid g3; have G4 := hid g4; have G5 := hid g5; clear g1 g2 g3 g4 g5)
                | (go_at_call 6; refine (HMSG.out _).mono ?_; rintro x w7 ⟨rfl, hb7⟩; have HB7 : Hid (Below w6.heap.size w6 w7) := (below_alloc _ _).trans (below_le hb7 (by simp)); clear hb7))
              obtain ⟨lb, lc, h41, h42, h43, h44⟩ := G4.out
              have c7 := cell_grow HB7.out h41
              have hlb7 : lb < w7.heap.size := Nat.lt_of_lt_of_le h42 HB7.out.size
              have E43 := hid h43
              have E44 := hid h44
              clear h41 h42 h43 h44
              go_upto_block 6 with fail
              go_cut [30, 31] from 128 to 164 (fun _ _ wx => Below w7.heap.size w7 wx)
              case first =>
                go_wp2_with fail
                go_loopw [30, 31] (fun i _ wr => ∃ t : Nat, t ≤ no ∧ i = .int .i64 t ∧ Below w7.heap.size w7 wr) (fun i _ _ => no - (intOf i).toNat)
                case atStart => exact ⟨0, Nat.zero_le _, rfl, Below.refl _ _⟩
                case round =>
                  obtain ⟨t, ht, rfl, hbv⟩ := hrel
                  by_cases htn : t < no
                  · have hb6v : Below w6.heap.size w6 wr := HB7.out.trans (below_le hbv HB7.out.size)
                    have cv := cell_grow hbv c7
                    have k0 : wr.cell? ⟨lb, (n + t) * 6, none⟩ = some (.int .i64 0) := cell_grow hb6v (E43.out t htn 0 (by omega))
                    have k1 : wr.cell? ⟨lb, (n + t) * 6 + 1, none⟩ = some (.int .u32 (D t : Int)) := cell_grow hb6v (E43.out t htn 1 (by omega))
                    have k2 : wr.cell? ⟨lb, (n + t) * 6 + 2, none⟩ = some (.int .u32 (self : Int)) := cell_grow hb6v (E43.out t htn 2 (by omega))
                    have k3 : wr.cell? ⟨lb, (n + t) * 6 + 3, none⟩ = some (.int .u32 (life : Int)) := cell_grow hb6v (E43.out t htn 3 (by omega))
                    have k4 : wr.cell? ⟨lb, (n + t) * 6 + 4, none⟩ = some (.int .u64 (s : Int)) := cell_grow hb6v (E43.out t htn 4 (by omega))
                    have k5 : wr.cell? ⟨lb, (n + t) * 6 + 5, none⟩ = some (.slice at0 L c) := cell_grow hb6v (E43.out t htn 5 (by omega))
                    obtain ⟨g, rfl⟩ := HOA.out (by omega)
                    have hbw : Below w3.heap.size w3 wr := G2.out.trans (below_le hb6v G2.out.size)
                    have o0 : wr.cell? ⟨g, t, none⟩ = some (.int .u32 (D t : Int)) := cell_grow hbw ((vec_grow HV2.out HB3.out).cell (by omega))
                    have hlbv : lb < wr.heap.size := Nat.lt_of_lt_of_le hlb7 hbv.size
                    have hgv : g < wr.heap.size := World.block_lt_of_cell? _ _ o0
                    have HBV := hid hbv
                    clear hb6v hbw hbv
                    go_wp2
                    refine wp_gen (fun wa hwa => ?_)
                    have a0 : wa.cell? ⟨wr.heap.size, 0, none⟩ = some (.int .i64 0) := by rw [hwa]; simp
                    have a1 : wa.cell? ⟨wr.heap.size, 1, none⟩ = some (.int .u32 (D t : Int)) := by rw [hwa]; simp
                    have a2 : wa.cell? ⟨wr.heap.size, 2, none⟩ = some (.int .u32 (self : Int)) := by rw [hwa]; simp
                    have a3 : wa.cell? ⟨wr.heap.size, 3, none⟩ = some (.int .u32 (life : Int)) := by rw [hwa]; simp
                    have a4 : wa.cell? ⟨wr.heap.size, 4, none⟩ = some (.int .u64 (s : Int)) := by rw [hwa]; simp
                    have a5 : wa.cell? ⟨wr.heap.size, 5, none⟩ = some (.slice at0 L c) := by rw [hwa]; simp
                    have ag : wa.cell? ⟨g, t, none⟩ = some (.int .u32 (D t : Int)) := by rw [hwa]; exact cell_grow (below_alloc _ _) o0
                    have hba : Below w7.heap.size w7 wa := by rw [hwa]; exact HBV.out.alloc HBV.out.size _
                    have HBA := hid hba
                    have hwr2 : IntKind.u64.wrap (s : Int) = (s : Int) := by rw [IntKind.wrap_u64]; omega
                    clear hwa hba k0 k1 k2 k3 k4 k5 o0 cv
                    go_region_held3 (fun w' => w'.cell? ⟨wr.heap.size, 0, none⟩ = some (.int .i64 0) ∧ w'.cell? ⟨wr.heap.size, 1, none⟩ = some (.int .u32 (D t : Int)) ∧ w'.cell? ⟨wr.heap.size, 2, none⟩ = some (.int .u32 (self : Int)) ∧ w'.cell? ⟨wr.heap.size, 3, none⟩ = some (.int .u32 (life : Int)) ∧ w'.cell? ⟨wr.heap.size, 4, none⟩ = some (.int .u64 (s : Int)) ∧ w'.cell? ⟨wr.heap.size, 5, none⟩ = some (.slice at0 L c) ∧ w'.cell? ⟨g, t, none⟩ = some (.int .u32 (D t : Int))) (go_keep)
                      ((go_at_call 6; refine (HMSG.out _).mono ?_; rintro x w8 ⟨rfl, hb8⟩; have b0 := cell_grow (w := wa.drew) hb8 a0; have b1 := cell_grow (w := wa.drew) hb8 a1; have b2 := cell_grow (w := wa.drew) hb8 a2; have b3 := cell_grow (w := wa.drew) hb8 a3; have b4 := cell_grow (w := wa.drew) hb8 a4; have b5 := cell_grow (w := wa.drew) hb8 a5; have bg := cell_grow (w := wa.drew) hb8 ag; have HB8 := hid hb8; clear hb8))
                    all_goals
                      go_wp2
                      go_roundw
                      case rel => exact ⟨t + 1, by omega, by go_num, HBA.out.trans (below_le ((Below.drew (Below.refl _ _)).trans HB8.out) HBA.out.size)⟩
                      case measure => simp [intOf]; omega
                  · obtain rfl : t = no := by omega
                    go_wp2
                    go_meet
                    exact hbv
              case rest =>
                obtain ⟨w8, hw8⟩ : ∃ w8, w8 = wc := ⟨_, rfl⟩
                subst hw8
                have hb68 : Below w6.heap.size w6 w8 := HB7.out.trans (below_le hcut HB7.out.size)
                have c8 := cell_grow hcut c7
                clear hcut c7
                have k0 : w8.cell? ⟨lb, (n + no) * 6, none⟩ = some (.int .i64 1) := cell_grow hb68 (E44.out 0 (by omega))
                have k1 : w8.cell? ⟨lb, (n + no) * 6 + 1, none⟩ = some (.int .u32 0) := cell_grow hb68 (E44.out 1 (by omega))
                have k2 : w8.cell? ⟨lb, (n + no) * 6 + 2, none⟩ = some (.int .u32 (self : Int)) := cell_grow hb68 (E44.out 2 (by omega))
                have k3 : w8.cell? ⟨lb, (n + no) * 6 + 3, none⟩ = some (.int .u32 (life : Int)) := cell_grow hb68 (E44.out 3 (by omega))
                have k4 : w8.cell? ⟨lb, (n + no) * 6 + 4, none⟩ = some (.int .u64 (s : Int)) := cell_grow hb68 (E44.out 4 (by omega))
                have k5 : w8.cell? ⟨lb, (n + no) * 6 + 5, none⟩ = some (.slice at0 L c) := cell_grow hb68 (E44.out 5 (by omega))
                obtain ⟨e6, hE6, hent6, _⟩ := G3.out
                have hlb8 : lb < w8.heap.size := World.block_lt_of_cell? _ _ k0
                obtain ⟨m, hm⟩ : ∃ m, m = e6.ent := ⟨_, rfl⟩
                have hmb : s * ni ≤ 2000 := Nat.le_trans (Nat.mul_le_mul hsb (Nat.le_of_lt hni)) (by omega)
                have p0 : (0 : Int) ≤ (s : Int) * (ni : Int) := by rw [← Int.natCast_mul]; omega
                have p1 : (s : Int) * (ni : Int) ≤ 2000 := by rw [← Int.natCast_mul]; omega
                have hms : (m : Int) = (s : Int) * (ni : Int) := by rw [hm, hent6, Int.natCast_mul]
                have hmt : ((m : Int) != (s : Int) * (ni : Int)) = false := by rw [hms]; simp
                have HMEM : Hid (∀ wz, Below w6.heap.size w6 wz → Calls Ybad.prog 7 #[.pointer (some ⟨eb, 0, none⟩)] wz fun x w' => x = .returned (.int .i64 (m : Int)) ∧ w' = wz) := fun wz hz => by
                  rw [hm]
                  exact memory_any eb e6 wz ((Kept.of_below (S := []) hz).row hE6 (by simp))
                have HB68 := hid hb68
                clear hb68 hm hms hmb hE6 hent6
                go_wp2_with (first
                  | (go_at_call 6; refine (HMSG.out _).mono ?_; rintro x w9 ⟨rfl, hb9⟩; have HB9 : Hid (Below w6.heap.size w6 w9) := HB68.out.trans (below_le ((below_alloc _ _).trans (below_le hb9 (by simp))) HB68.out.size); clear hb9)
                  | (go_at_call 7; refine (HMEM.out _ HB9.out).mono ?_; rintro x w10 ⟨rfl, hz⟩; obtain rfl := hz.symm))
                go_roundw
                case rel =>
                  refine ⟨s, hst2, by go_num, G1.out.grow HB9.out, G2.out.trans (below_le HB9.out G2.out.size), ?_⟩
                  have := G5.out
                  have := HB9.out.size
                  omega
                case measure => (have := HS.out); simp [intOf]; omega
            · obtain rfl : q = tt := by omega
              go_wp2
              go_meet
              obtain ⟨e1, _, _, hc1, _, _, _, _, _, _, hdl, _, _, _, _⟩ := hli
              exact ⟨e1, hc1.hE, hdl (by omega), hbr⟩
        case rest =>
          obtain ⟨w6, hw6⟩ : ∃ w6, w6 = wc := ⟨_, rfl⟩
          subst hw6
          obtain ⟨e6, hE6, hdl6, hb36⟩ := hcut
          have HRS := hid (reset_any eb e6 w6 hE6 hdl6)
          have hb06 : Below w.heap.size w w6 := HB03.out.trans (below_le hb36 HB03.out.size)
          have HB06 := hid hb06
          have HB36 := hid hb36
          clear hE6 hdl6 hb36 hb06
          have hnil : ∀ (w : World) (a : Option Addr) (n c : Nat), (binOp .eql 24 (.slice a n c) (.slice none 0 0)).run Ybad.prog w = .ok (.bool a.isNone) w := fun w a n c => Lib.run_eql_slice_nil w 24 5 a n c 0 0 Ybad.underlying24
          rcases HBF.out with ⟨rfl, rfl⟩ | ⟨a, bb, rfl, rfl, hrow, hbb⟩
          · obtain rfl : L = 0 := by
              by_cases h : 0 < L
              · have := HA.out h; cases this
              · omega
            go_upto_block 8 with (go_at_call 8; refine HRS.out.mono ?_; rintro x w7 ⟨⟨t7, v7, rfl⟩, hb7⟩; have HB7 := hid hb7; clear hb7)
            go_wp2_with fail
            go_loopw [33] (fun i wr => i = .int .i64 0 ∧ w7 = wr) (fun _ _ => 0)
            case atStart => exact ⟨rfl, rfl⟩
            case round =>
              obtain ⟨rfl, rfl⟩ := hrel
              go_wp2
              go_ret
              exact ⟨rfl, HB06.out.trans (below_le HB7.out HB06.out.size)⟩
          · have HROW := hid hrow
            have HBBL := hid hrow.lt
            clear hrow
            go_upto_block 8 with (go_at_call 8; refine HRS.out.mono ?_; rintro x w7 ⟨⟨t7, v7, rfl⟩, hb7⟩; have HB7 := hid hb7; clear hb7)
            go_wp2_with fail
            go_loopw [33] (fun i wr => ∃ t : Nat, t ≤ L ∧ i = .int .i64 t ∧ Below w6.heap.size w6 wr) (fun i _ => L - (intOf i).toNat)
            case atStart => exact ⟨0, Nat.zero_le _, rfl, HB7.out⟩
            case round =>
              obtain ⟨t, ht, rfl, hbz⟩ := hrel
              by_cases htL : t < L
              · have h1 := HA.out (by omega)
                simp only [Option.some.injEq] at h1
                subst h1
                have x0 : wr.cell? ⟨bb, t, none⟩ = some (.int .u8 (U t)) := cell_grow (HB36.out.trans (below_le hbz HB36.out.size)) (HROW.out.cell htL)
                have x1 : wr.cell? ⟨pb, po + t, none⟩ = some (.int .u8 (U t)) := cell_grow (HB06.out.trans (below_le hbz HB06.out.size)) (HU.out t htL)
                have HBZ := hid hbz
                clear hbz
                go_wp2
                go_quiet (fail)
                go_wp2
                go_roundw
                case rel => exact ⟨t + 1, by omega, by go_num, below_drewN HBZ.out _⟩
                case measure => simp [intOf]; omega
              · obtain rfl : t = L := by omega
                go_wp2
                go_ret
                exact ⟨rfl, HB06.out.trans (below_le hbz HB06.out.size)⟩
set_option maxRecDepth 100000 in
theorem walkB_long (self life nIn nOut st tm L c : Nat) (at0 : Option Addr) (w : World) (hL : 1048576 < L) (hL2 : L ≤ 9223372036854775807) :
    Calls Ybad.prog 3 #[.int .u32 (self : Int), .int .u32 (life : Int), .int .u16 (nIn : Int), .int .u16 (nOut : Int), .int .u8 (st : Int), .int .u8 (tm : Int), .slice at0 L c] w fun x w' => x = .returned (.bool true) ∧ Below w.heap.size w w' := by
  have hd1 : decide ((1048576 : Int) < (L : Int)) = true := decide_eq_true (by omega)
  go_enter Ybad.func3, Ybad.ntmps3
  go_wp2
  go_ret
  exact ⟨rfl, Below.refl _ _⟩
end Go.Proofs.YbulkgbaiDoor
