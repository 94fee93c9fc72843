import Derived.Test.YbulkgbaiDoorWiden
namespace Go.Proofs.YbulkgbaiDoor
open Go.RowKit Go.Zz Go.Maps

def slotW (k i : Nat) : Nat := ones (min 64 (k - 64 * i))
def wordsOf (k : Nat) : Nat := if k = 0 then 1 else (k + 63) / 64

theorem ones_64 : ones 64 = 18446744073709551615 := by decide
theorem ones_lt : ∀ b, b < 64 → ones b < 18446744073709551615 ∧ ones (b + 1) ≤ 18446744073709551615 := by decide +kernel
theorem slotW_full {k i : Nat} (h : i < k / 64) : slotW k i = 18446744073709551615 := by
  unfold slotW
  rw [show min 64 (k - 64 * i) = 64 by omega, ones_64]
theorem slotW_at (k : Nat) : slotW k (k / 64) = ones (k % 64) := by
  unfold slotW
  congr 1
  omega
theorem slotW_next {k i : Nat} : slotW (k + 1) i = if i = k / 64 then ones (k % 64 + 1) else slotW k i := by
  unfold slotW
  by_cases h : i = k / 64
  · rw [if_pos h]; congr 1; omega
  · rw [if_neg h]; congr 1; omega
theorem wordsOf_pos (k : Nat) : 0 < wordsOf k := by unfold wordsOf; split <;> omega
theorem wordsOf_le {k : Nat} (h : k ≤ 300) : wordsOf k ≤ 5 := by unfold wordsOf; split <;> omega
theorem words_ge (k : Nat) : k / 64 ≤ wordsOf k := by unfold wordsOf; split <;> omega
theorem words_eq {k : Nat} (h : k / 64 = wordsOf k) : wordsOf (k + 1) = wordsOf k + 1 ∧ ones (k % 64) = 0 := by
  unfold wordsOf at *
  split at h
  · omega
  · rename_i h0
    have : k % 64 = 0 := by omega
    rw [this, if_neg (by omega), if_neg h0]
    exact ⟨by omega, rfl⟩
theorem words_ne {k : Nat} (h : k / 64 ≠ wordsOf k) : wordsOf (k + 1) = wordsOf k ∧ k / 64 < wordsOf k := by
  unfold wordsOf at *
  split at h
  · rename_i h0
    subst h0
    simp
  · rename_i h0
    rw [if_neg (by omega), if_neg h0]
    exact ⟨by omega, by omega⟩

theorem xor_ones : ∀ b, b < 64 → bits .xor .u64 (if IntKind.u64.signed = true then -1 else IntKind.u64.max) ((ones b : Nat) : Int) = ((18446744073709551615 - ones b : Nat) : Int) := by decide +kernel

theorem or_ones : ∀ b, b < 64 → bits .or .u64 ((ones b : Nat) : Int) (IntKind.u64.wrap ((2 : Int) ^ b)) = ((ones (b + 1) : Nat) : Int) := by decide +kernel

theorem gDe : Ybad.prog.globalNamed "math/bits.deBruijn64tab" = some 0 := by kernel_rfl
theorem Tab.kept {S : List Nat} {w w' : World} (h : Tab w) (hk : Kept S w w') (h0 : 0 ∉ S) (hlt : 0 < w.heap.size) : Tab w' := by
  unfold Tab Lib.TabIs World.var? at *
  rw [gDe] at *
  simp only [Option.bind_some] at *
  rw [hk.block 0 hlt h0]
  exact h

set_option maxRecDepth 100000 in
/-- (*copies).addLink at k links, no row yet -/
theorem addLink_any (eb B k : Nat) (e : EV) (w : World) (f0 : Nat → Value) (hE : E w eb e) (hB : B ≤ eb) (hk : k < 300) (hW : e.words = wordsOf k) (hV : Vec w B 33 1 e.bits 0 f0)
    (hS : Vec w B 33 1 e.slots (wordsOf k) (fun i => .int .u64 (slotW k i : Int))) (hdis : ∀ b, e.slots.ownBlock = some b → e.bits.ownBlock ≠ some b) (ht : Tab w) (hB0 : 0 < B) :
    Calls Ybad.prog 10 #[.pointer (some ⟨eb, 5, none⟩)] w fun x w' => x = .returned (.int .i64 (k : Int)) ∧
      ∃ bits' slots', E w' eb { e with bits := bits', words := wordsOf (k + 1), slots := slots' } ∧ Vec w' B 33 1 bits' 0 f0 ∧ Vec w' B 33 1 slots' (wordsOf (k + 1)) (fun i => .int .u64 (slotW (k + 1) i : Int)) ∧ (∀ b, slots'.ownBlock = some b → bits'.ownBlock ≠ some b) ∧
        (∀ b, slots'.ownBlock = some b → e.slots.ownBlock = some b ∨ w.heap.size ≤ b) ∧ Kept (eb :: e.slots.ownBlock.toList) w w' := by
  have c8 := hE.c8
  have c9 := hE.c9
  rw [hW] at c8
  have hw0 := wordsOf_pos k
  have hw5 := wordsOf_le (k := k) (by omega)
  have hge := words_ge k
  obtain ⟨W, hWW⟩ : ∃ W, W = wordsOf k := ⟨_, rfl⟩
  obtain ⟨i0, hi0⟩ : ∃ i0, i0 = k / 64 := ⟨_, rfl⟩
  rcases hS.shape with ⟨_, h0⟩ | ⟨sb, sc, hsv, hsb, hslt, hsc, _⟩
  · omega
  rw [hsv] at c9
  rw [← hWW] at c8 c9 hw0 hw5 hge hsc
  rw [← hi0] at hge
  have hlt : eb < w.heap.size := World.rowIs.lt hE
  have hcell : ∀ i, i < W → w.cell? ⟨sb, i, none⟩ = some (.int .u64 (slotW k i : Int)) := fun i hi => by
    have h2 := hS
    rw [hsv] at h2
    exact h2.cell (by omega)
  have HCELL := hid hcell
  have HI0 := hid hi0
  have HWW := hid hWW
  have HE := hid hE
  have HV := hid hV
  have HS := hid hS
  have HD := hid hdis
  have HTb := hid ht
  have HSV := hid hsv
  have HW := hid hW
  clear hcell hi0 hWW hE hV hS hdis ht hsv hW
  go_enter Ybad.func10, Ybad.ntmps10
  go_upto_block 0 with fail
  go_cut [3] from 3 to 22 (fun v wx => v = .int .i64 (i0 : Int) ∧ w = wx)
  case first =>
    go_wp2_with fail
    go_loopw [3] (fun i wr => ∃ j : Nat, j ≤ i0 ∧ i = .int .i64 j ∧ w = wr) (fun i _ => i0 - (intOf i).toNat)
    case atStart => exact ⟨0, Nat.zero_le _, rfl, rfl⟩
    case round =>
      obtain ⟨j, hj, rfl, rfl⟩ := hrel
      by_cases hj2 : j < i0
      · have hjW : j < W := by omega
        have g0 := HCELL.out j hjW
        rw [slotW_full (by have := HI0.out; omega)] at g0
        go_wp2
        go_roundw
        case rel => exact ⟨j + 1, by omega, by go_num, trivial⟩
        case measure => simp [intOf]; omega
      · obtain rfl : j = i0 := by omega
        by_cases hjW : j < W
        · have g0 := HCELL.out j hjW
          have e1 : slotW k j < 18446744073709551615 := by rw [HI0.out, slotW_at]; exact (ones_lt _ (Nat.mod_lt _ (by omega))).1
          obtain ⟨x, hx⟩ : ∃ x, x = slotW k j := ⟨_, rfl⟩
          rw [← hx] at g0 e1
          have e2 : ((x : Int) == 18446744073709551615) = false := by simp; omega
          clear hx
          go_wp2
          go_meet
          exact ⟨rfl, rfl⟩
        · go_wp2
          go_meet
          exact ⟨rfl, rfl⟩
  case rest =>
    obtain ⟨rfl, rfl⟩ := hcut
    go_upto_if 28 with fail
    go_cut [28, 29, 30] from 28 to 30 (fun _ _ _ wx => ∃ bits' slots', E wx eb { e with bits := bits', words := wordsOf (k + 1), slots := slots' } ∧ Vec wx B 33 1 bits' 0 f0 ∧ Vec wx B 33 1 slots' (wordsOf (k + 1)) (fun i => .int .u64 (slotW k i : Int)) ∧ (∀ b, slots'.ownBlock = some b → bits'.ownBlock ≠ some b) ∧ (∀ b, slots'.ownBlock = some b → e.slots.ownBlock = some b ∨ w.heap.size ≤ b) ∧ Kept (eb :: e.slots.ownBlock.toList) w wx)
    case first =>
      by_cases hiW : i0 = W
      · have e0 : ((i0 : Int) == (W : Int)) = true := by simp [hiW]
        obtain ⟨hw1, hw2⟩ := words_eq (k := k) (by rw [← HI0.out, ← HWW.out, hiW])
        have hz : slotW k (wordsOf k) = 0 := by
          rw [← HWW.out, ← hiW, HI0.out, slotW_at]
          exact hw2
        have hbv : ∃ ba bc, e.bits = .slice ba 0 bc := by
          rcases HV.out.shape with ⟨h, _⟩ | ⟨bb, cc, h, _⟩
          · exact ⟨_, _, h⟩
          · exact ⟨_, _, h⟩
        obtain ⟨ba, bc, hbv⟩ := hbv
        have HBV := hid hbv
        have HZ := hid hz
        have HW1 := hid hw1
        clear hbv hz hw1 hw2 hiW
        go_wp2_with (go_at_call 15; refine (widen_any eb B (wordsOf k) e w ba bc _ _ HE.out hB HBV.out HW.out (wordsOf_pos k) (by have := wordsOf_le (k := k) (by omega); omega) HS.out (fun i _ => rfl) (by rw [HZ.out]; rfl)).mono ?_; rintro x w2 ⟨rfl, hpost⟩)
        go_meet
        obtain ⟨bits', slots', h1, h2, h3, h4, h5, h6⟩ := hpost
        rw [HW1.out]
        refine ⟨bits', slots', h1, ?_, h3, h4, h5, h6⟩
        exact h2.congr (fun j hj => by omega)
      · have e0 : ((i0 : Int) == (W : Int)) = false := by simp; omega
        obtain ⟨hw1, _⟩ := words_ne (k := k) (by rw [← HI0.out, ← HWW.out]; exact hiW)
        have HW1 := hid hw1
        clear hw1
        go_wp2
        go_meet
        refine ⟨e.bits, e.slots, ?_, HV.out, by rw [HW1.out]; exact HS.out, HD.out, fun b h => .inl h, Kept.refl _ _⟩
        have he : ({ e with bits := e.bits, words := wordsOf (k + 1), slots := e.slots } : EV) = e := by
          rw [HW1.out, ← HW.out]
        rw [he]
        exact HE.out
    case rest =>
      obtain ⟨w2, hw2⟩ : ∃ w2, w2 = wc := ⟨_, rfl⟩
      subst hw2
      obtain ⟨bits', slots', hE2, hV2, hS2, hd2, hat2, hk2⟩ := hcut
      clear c8 c9
      have hw0 := wordsOf_pos (k + 1)
      have hiW : i0 < wordsOf (k + 1) := by
        have := HI0.out
        unfold wordsOf
        rw [if_neg (by omega)]
        omega
      have hw5' := wordsOf_le (k := k + 1) (by omega)
      rcases hS2.shape with ⟨_, h0⟩ | ⟨sb2, sc2, rfl, hsb2, hslt2, hsc2, _⟩
      · omega
      have c9 := hE2.c9
      have g0 := hS2.cell (j := i0) (by omega)
      rw [show slotW k i0 = ones (k % 64) by rw [HI0.out, slotW_at]] at g0
      obtain ⟨W2, hWW2⟩ : ∃ W2, W2 = wordsOf (k + 1) := ⟨_, rfl⟩
      obtain ⟨b, hb⟩ : ∃ b, b = k % 64 := ⟨_, rfl⟩
      have hb64 : b < 64 := by omega
      rw [← hb] at g0
      rw [← hWW2] at c9 hiW hw0 hw5'
      have fz := hS2.frozen i0
      have hlt2 : eb < w2.heap.size := World.rowIs.lt hE2
      have HE2 := hid hE2
      have HV2 := hid hV2
      have HS2 := hid hS2
      have HD2 := hid hd2
      have HAT2 := hid hat2
      have HK2 := hid hk2
      have HWW2 := hid hWW2
      have HB := hid hb
      clear hE2 hV2 hS2 hd2 hat2 hk2 hWW2 hb
      have HXOR := hid (xor_ones b hb64)
      have HTb2 : Hid (Tab w2) := HTb.out.kept HK2.out (fun h => by
        rcases List.mem_cons.1 h with h | h
        · omega
        · have := (World.ownsRow.lt HS.out 0 (by simpa using h)).1
          omega) (by omega)
      go_wp2_with (go_at_call 16; rw [HXOR.out]; refine (tz_at b hb64 _ HTb2.out).mono ?_; rintro x wz ⟨rfl, hz⟩; obtain rfl := hz.symm)
      go_region
      go_wp2
      go_ret
      refine ⟨ret_int (by have := HI0.out; have := HB.out; omega), bits', _, World.rowIs.setOther HE2.out (fun h => vec_ne HS2.out HE2.out (by decide) (by rw [h]; rfl)) _, vec_set HV2.out (HD2.out sb2 rfl) _, ?_, HD2.out, HAT2.out, HK2.out.drew.setCell ?_ _⟩
      · refine (HS2.out.set i0 _).congr fun j hj => ?_
        rw [slotW_next, ← HI0.out, or_ones b hb64]
        by_cases h : j = i0
        · rw [if_pos h, if_pos h, HB.out]
        · rw [if_neg h, if_neg h]
      · rcases HAT2.out sb2 rfl with h | h
        · exact .inl (by simp [h])
        · exact .inr h
end Go.Proofs.YbulkgbaiDoor
