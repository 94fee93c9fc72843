import Derived.Test.YbulkgbaiDoorRelease
namespace Go.Proofs.YbulkgbaiDoor
open Go.RowKit Go.Zz Go.Maps

theorem andNot_ones : ∀ c, c < 65 → bits .andNot .u64 ((ones c : Nat) : Int) 0 = ((ones c : Nat) : Int) := by decide +kernel
theorem or0_ones : ∀ c, c < 65 → bits .or .u64 0 ((ones c : Nat) : Int) = ((ones c : Nat) : Int) := by decide +kernel

/-- the key's cells -/
def kf (o s : Nat) : Nat → Value := fun i => if i = 0 then .int .u64 (o : Int) else .int .u64 (s : Int)

/-- the copies in the midst of hold: row r, of the last W words, is the message's -/
def Mid (w : World) (kb eb B o s N k : Nat) (g : Nat → Value) (X : World → EV → Nat → Nat → Prop) : Prop :=
  ∃ (e : EV) (bb cap : Nat), E w eb e ∧ e.bits = .slice (some ⟨bb, 0, none⟩) N cap ∧ N ≤ cap ∧ Vec w B 33 1 (.slice (some ⟨bb, 0, none⟩) N cap) N g ∧ e.words = wordsOf k ∧
    Vec w B 33 1 e.slots (wordsOf k) (fun i => .int .u64 (slotW k i : Int)) ∧ e.slots.ownBlock ≠ some bb ∧ w.rowIs kb 70 2 (kf o s) ∧ X w e bb cap

/-- the row filled up to word t -/
def fillTo (k lo t : Nat) (g : Nat → Value) : Nat → Value := fun q => if lo ≤ q ∧ q < lo + t then .int .u64 (slotW k (q - lo) : Int) else g q

theorem vec_tag {w : World} {B b kb m n size c : Nat} {t t' : TypeId} {f g : Nat → Value} (hv : Vec w B t size (.slice (some ⟨b, 0, none⟩) n c) n f) (hr : w.rowIs kb t' m g) (h : t' ≠ t) : b ≠ kb := by
  intro e
  exact vec_ne hv hr h (by rw [e]; rfl)

set_option maxRecDepth 100000 in
/-- (*copies).hold(m, noLink), over what rowOf and release do -/
theorem hold_gen (eb B o s k r lo N : Nat) (w : World) (g : Nat → Value) (X : World → EV → Nat → Nat → Prop) (Post : World → Prop) (hk : k ≤ 300) (hr : r ≤ 64) (hlo : r * wordsOf k = lo) (hN : lo + wordsOf k = N)
    (hg : ∀ q, lo ≤ q → g q = .int .u64 0)
    (hro : Calls Ybad.prog 22 #[.pointer (some ⟨eb, 5, none⟩), kv o s] (w.alloc (.cells #[.int .u64 (o : Int), .int .u64 (s : Int)] 70)) fun x w' => x = .returned (.int .i64 (r : Int)) ∧ Mid w' w.heap.size eb B o s N k g X)
    (hX : ∀ w' e bb cap i v, X w' e bb cap → X (w'.setCell ⟨bb, i, none⟩ v) e bb cap) (hXd : ∀ w' e bb cap q, X w' e bb cap → X (w'.drewN q) e bb cap)
    (hre : ∀ w', Mid w' w.heap.size eb B o s N k (fillTo k lo (wordsOf k) g) X → Calls Ybad.prog 25 #[.pointer (some ⟨eb, 5, none⟩), kv o s, .int .i64 (r : Int)] w' fun x w'' => x = .returned (.tuple #[]) ∧ Post w'') :
    Calls Ybad.prog 17 #[.pointer (some ⟨eb, 5, none⟩), kv o s, .int .i64 (-1)] w fun x w' => x = .returned (.int .i64 (k : Int)) ∧ Post w' := by
  have hW0 := wordsOf_pos k
  have hW5 := wordsOf_le (k := k) hk
  obtain ⟨W, hWW⟩ : ∃ W, W = wordsOf k := ⟨_, rfl⟩
  rw [← hWW] at hW0 hW5 hlo hN
  have hlo2 : lo ≤ 320 := by rw [← hlo]; exact Nat.le_trans (Nat.mul_le_mul hr hW5) (by omega)
  have HRO := hid hro
  have HRE := hid hre
  have HX := hid hX
  have HXD := hid hXd
  have HWW := hid hWW
  have HG := hid hg
  have HLO := hid hlo
  have HN := hid hN
  clear hro hre hX hXd hWW hg hlo hN
  unfold kv
  unfold kv at HRO HRE
  go_enter Ybad.func17, Ybad.ntmps17
  go_upto_region 2 with (go_at_call 22; refine HRO.out.mono ?_; rintro x w1 ⟨rfl, hmid⟩)
  obtain ⟨e, bb, cap, hE, hbits, hNc, hV, hw, hS, hne, hkr, hx⟩ := hmid
  have hrow := row_any eb e w1 bb N cap W r (r + 1) lo N hE hbits (by rw [hw, HWW.out]) rfl HLO.out (by have := HLO.out; have := HN.out; rw [Nat.succ_mul]; omega) hW0 hNc (by have := HN.out; omega) (by omega)
  rw [show N - lo = W by have := HN.out; omega] at hrow
  have HROW := hid hrow
  clear hrow
  have h1 : ∀ q, E (w1.drewN q) eb e := fun q => hE
  have HE := hid hE
  have HV := hid hV
  have HS := hid hS
  have HKR := hid hkr
  have HXX := hid hx
  have HWD := hid hw
  have HBT := hid hbits
  clear hE hV hS hkr hx hw hbits h1
  go_upto_region 7 with (go_at_call 21; refine HROW.out.mono ?_; rintro x w2 ⟨rfl, q2, rfl⟩)
  refine wp_gen (fun w2 hw2 => ?_)
  have hE2 : E w2 eb e := by rw [hw2]; exact HE.out
  have hV2 : Vec w2 B 33 1 (.slice (some ⟨bb, 0, none⟩) N cap) N g := by rw [hw2]; exact HV.out
  have hS2 : Vec w2 B 33 1 e.slots (wordsOf k) (fun i => .int .u64 (slotW k i : Int)) := by rw [hw2]; exact HS.out
  have hK2 : w2.rowIs w.heap.size 70 2 (kf o s) := by rw [hw2]; exact HKR.out
  have hX2 : X w2 e bb cap := by rw [hw2]; exact HXD.out _ _ _ _ _ HXX.out
  clear hw2
  rcases hS2.shape with ⟨_, h0⟩ | ⟨sb, sc, hsv, _, hslt, hsc, _⟩
  · have := HWW.out; omega
  rw [← HWW.out] at hsv hsc
  have c9 := hE2.c9
  rw [hsv] at c9
  have HSV := hid hsv
  have HE2 := hid hE2
  have HV2 := hid hV2
  have HS2 := hid hS2
  have HK2 := hid hK2
  have HX2 := hid hX2
  have hlt2 : eb < w2.heap.size := World.rowIs.lt hE2
  clear hsv hE2 hV2 hS2 hK2 hX2
  go_upto_block 0 with fail
  go_cut [11, 12, 13, 32] from 32 to 59 (fun a _ _ _ wx => a = .int .i64 (k : Int) ∧ E wx eb e ∧ Vec wx B 33 1 (.slice (some ⟨bb, 0, none⟩) N cap) N (fillTo k lo W g) ∧ Vec wx B 33 1 e.slots (wordsOf k) (fun i => .int .u64 (slotW k i : Int)) ∧ wx.rowIs w.heap.size 70 2 (kf o s) ∧ X wx e bb cap)
  case first =>
    go_wp2_with fail
    go_loopw [32, 11, 12, 13] (fun i a _ _ wr => ∃ t : Nat, t ≤ W ∧ i = .int .i64 t ∧ a = .int .i64 ((min (64 * t) k : Nat) : Int) ∧ E wr eb e ∧ Vec wr B 33 1 (.slice (some ⟨bb, 0, none⟩) N cap) N (fillTo k lo t g) ∧ Vec wr B 33 1 e.slots (wordsOf k) (fun i => .int .u64 (slotW k i : Int)) ∧ wr.rowIs w.heap.size 70 2 (kf o s) ∧ X wr e bb cap) (fun i _ _ _ _ => W - (intOf i).toNat)
    case atStart =>
      refine ⟨0, Nat.zero_le _, rfl, by simp, HE2.out, ?_, HS2.out, HK2.out, HX2.out⟩
      exact HV2.out.congr (fun q hq => by unfold fillTo; rw [if_neg (by omega)])
    case round =>
      obtain ⟨t, ht, rfl, rfl, hE3, hV3, hS3, hK3, hX3⟩ := hrel
      by_cases htW : t < W
      · have hS3' := hS3
        rw [HSV.out] at hS3'
        have s0 : wr.cell? ⟨sb, t, none⟩ = some (.int .u64 (slotW k t : Int)) := by
          have h2 : Vec wr B 33 1 (.slice (some ⟨sb, 0, none⟩) W sc) W (fun i => .int .u64 (slotW k i : Int)) := by
            have h3 := hS3'
            rw [← HWW.out] at h3
            exact h3
          exact h2.cell (by omega)
        have r0 : wr.cell? ⟨bb, lo + t, none⟩ = some (.int .u64 0) := by
          rw [hV3.cell (j := lo + t) (by have := HN.out; omega)]
          unfold fillTo
          rw [if_neg (by omega), HG.out _ (by omega)]
        have fz := hV3.frozen (lo + t)
        obtain ⟨c, hc⟩ : ∃ c, c = min 64 (k - 64 * t) := ⟨_, rfl⟩
        have hc65 : c < 65 := by omega
        have hsl : slotW k t = ones c := by unfold slotW; rw [hc]
        rw [hsl] at s0
        have eA := andNot_ones c hc65
        have eO := or0_ones c hc65
        have HOC := hid (oc_ones c hc65)
        obtain ⟨x, hx⟩ : ∃ x, x = ones c := ⟨_, rfl⟩
        obtain ⟨ad, had⟩ : ∃ ad, ad = min (64 * t) k := ⟨_, rfl⟩
        rw [← had]
        rw [← hx] at s0 eA eO HOC
        have hadb : ad ≤ 300 := by omega
        have HAD := hid had
        have HC := hid hc
        have HXO := hid hx
        have HSL := hid hsl
        have HE3 := hid hE3
        have HV3 := hid hV3
        have HS3 := hid hS3
        have HK3 := hid hK3
        have HX3 := hid hX3
        clear hsl hE3 hV3 hS3 hK3 hX3 hS3' had hc hx
        have e1 : ((t : Int) == -1) = false := by simp
        go_wp2_with (go_at_call 24; refine (oc_any x _).mono ?_; rw [HOC.out]; rintro y w4 ⟨rfl, hz⟩; obtain rfl := hz.symm)
        go_roundw
        case rel =>
          have hbe : bb ≠ eb := vec_tag HV3.out HE3.out (by decide)
          have hbk : bb ≠ w.heap.size := vec_tag HV3.out HK3.out (by decide)
          refine ⟨t + 1, by omega, by go_num, ?_, World.rowIs.setOther HE3.out (fun h => hbe h.symm) _, ?_, vec_set HS3.out hne _, World.rowIs.setOther HK3.out (fun h => hbk h.symm) _, HX.out _ _ _ _ _ _ HX3.out⟩
          · have := HAD.out
            have := HC.out
            have hq : min (64 * (t + 1)) k = ad + c := by omega
            rw [hq]
            go_num
          · refine (HV3.out.set (lo + t) _).congr (fun q hq => ?_)
            unfold fillTo
            by_cases h : q = lo + t
            · rw [if_pos h, if_pos (by omega), h, show lo + t - lo = t by omega, HSL.out, HXO.out]
            · rw [if_neg h]
              by_cases h2 : lo ≤ q ∧ q < lo + t
              · rw [if_pos h2, if_pos (by omega)]
              · rw [if_neg h2, if_neg (by omega)]
        case measure => simp [intOf]; omega
      · obtain rfl : t = W := by omega
        go_wp2
        go_meet
        have hmin : min (64 * t) k = k := by
          have h1 := HWW.out
          unfold wordsOf at h1
          split at h1 <;> omega
        rw [hmin]
        exact ⟨rfl, hE3, hV3, hS3, hK3, hX3⟩
  case rest =>
    obtain ⟨w3, hw3⟩ : ∃ w3, w3 = wc := ⟨_, rfl⟩
    subst hw3
    obtain ⟨rfl, hE3, hV3, hS3, hK3, hX3⟩ := hcut
    have k0 : w3.cell? ⟨w.heap.size, 0, none⟩ = some (.int .u64 (o : Int)) := hK3.cell (i := 0) (by omega)
    have k1 : w3.cell? ⟨w.heap.size, 1, none⟩ = some (.int .u64 (s : Int)) := hK3.cell (i := 1) (by omega)
    have hm : Mid w3 w.heap.size eb B o s N k (fillTo k lo (wordsOf k) g) X := ⟨e, bb, cap, hE3, HBT.out, hNc, by rw [← HWW.out]; exact hV3, HWD.out, hS3, hne, hK3, hX3⟩
    have HREL := hid (HRE.out w3 hm)
    clear hE3 hV3 hS3 hK3 hX3 hm c9
    go_wp2_with (go_at_call 25; refine HREL.out.mono ?_; rintro y w5 ⟨rfl, hpost⟩)
    go_ret
    exact ⟨rfl, hpost⟩
end Go.Proofs.YbulkgbaiDoor
