import Derived.Test.YbulkgahmDoorFirst
namespace Go.Proofs.YbulkgahmDoor
open Go.RowKit Go.Zz
variable {Hb tb n : Nat} {ix : Nat → Int} {ob oc om : Nat → Nat} {ops : Nat → Nat → OpV}

set_option maxHeartbeats 2000000 in
set_option maxRecDepth 100000 in
/-- zzs8852cfirst -/
theorem first_any (t q : Nat) (key : Int) (w : World) (h : Hist w Hb tb n ix ob oc om ops) (ht : t < n) (hq : FirstAt (ops t) (om t) key q) :
    Calls Ybad.prog 14 #[.slice (some ⟨tb, 0, none⟩) n n, .int .i32 (t : Int), .int .i64 key] w fun e w' => e = .returned (ops t q).v ∧ Below w.heap.size w w' := by
  have hl := h.opsl t ht
  have hn := h.hn
  obtain ⟨m, hm⟩ : ∃ m, m = om t := ⟨_, rfl⟩
  obtain ⟨g, hg⟩ : ∃ g, g = ob t := ⟨_, rfl⟩
  obtain ⟨f, hf⟩ : ∃ f, f = ops t := ⟨_, rfl⟩
  have hmm := h.om_le t ht
  have H0 := hid (h.c0 t ht)
  have H1 := hid (h.c1 t ht)
  have H2 := hid (h.c2 t ht)
  have H3 := hid (h.c3 t ht)
  rw [← hm] at hl hmm hq H0 H1 H2 H3
  rw [← hg] at hl H0 H1 H2 H3
  rw [← hf] at hq H0 H1 H2 H3 ⊢
  clear h hm hg hf
  have hqm := hq.lt
  have HQ := hid hq
  clear hq
  have hll : tb < w.heap.size := World.block_lt_of_cell? w ⟨tb, t * 3 + 2, none⟩ hl
  go_enter Ybad.func14, Ybad.ntmps14
  go_wp2
  go_loopw [8] (fun i wr => ∃ k : Nat, k ≤ q ∧ i = .int .i64 k ∧ (∃ c0 c1 c2 c3, wr.heap[w.heap.size]? = some (.cells #[c0, c1, c2, c3] 35 (0, 0))) ∧ Below w.heap.size w wr) (fun i _ => m - (intOf i).toNat)
  case atStart =>
    refine ⟨0, by omega, rfl, ⟨_, _, _, _, Deep.blk_alloc_new _ _⟩, (Below.refl _ _).alloc (Nat.le_refl _) _⟩
  case round =>
    obtain ⟨k, hk, rfl, ⟨c0, c1, c2, c3, hR⟩, hB⟩ := hrel
    have hkm : k < m := by omega
    have g0 := cell_grow hB (H0.out k hkm)
    have g1 := cell_grow hB (H1.out k hkm)
    have g2 := cell_grow hB (H2.out k hkm)
    have g3 := cell_grow hB (H3.out k hkm)
    have hRl := lt_of_heap hR
    obtain ⟨r0, r1, r2, r3⟩ := cells4 hR
    have f0 := Lib.frozen_of_heap hR 0
    have f1 := Lib.frozen_of_heap hR 1
    have f2 := Lib.frozen_of_heap hR 2
    have f3 := Lib.frozen_of_heap hR 3
    by_cases hkq : k = q
    · subst hkq
      have e1 : ((f k).key == key) = true := by simp [HQ.out.ky]
      rw [HQ.out.rd] at g0
      go_wp2
      have hW : (put4 wr w.heap.size (.bool false) (.int .i64 (f k).key) (.int .i64 (f k).val) (.bool (f k).nl)).heap[w.heap.size]? = some (.cells #[.bool false, .int .i64 (f k).key, .int .i64 (f k).val, .bool (f k).nl] 35 (0, 0)) := put4_heap hR _ _ _ _
      obtain ⟨q0, q1, q2, q3⟩ := cells4 hW
      unfold put4 at q0 q1 q2 q3
      refine bodyPost_ret (v := .agg #[.bool false, .int .i64 (f k).key, .int .i64 (f k).val, .bool (f k).nl]) (by simp [results, Ybad.results14, go_sem, q0, q1, q2, q3]) rfl ⟨?_, ?_⟩
      · unfold OpV.v
        rw [HQ.out.rd]
      · exact put4_below hB (Nat.le_refl _) _ _ _ _
    · have hB' := hid hB
      have HR := hid hR
      clear hB hR
      by_cases e1 : (f k).key = key
      · have e2 := HQ.out.no k (by omega) e1
        rw [e2] at g0
        have e1' : ((f k).key == key) = true := by simp [e1]
        have E1 := hid e1
        clear e1 e2
        go_wp2
        go_roundw
        case rel => exact ⟨k + 1, by omega, by go_num, ⟨_, _, _, _, HR.out⟩, hB'.out⟩
        case measure => simp [intOf]; omega
      · have e1' : ((f k).key == key) = false := by simp [e1]
        clear e1
        go_wp2
        go_roundw
        case rel => exact ⟨k + 1, by omega, by go_num, ⟨_, _, _, _, HR.out⟩, hB'.out⟩
        case measure => simp [intOf]; omega

/-- the value's text: nil or the number, and whence it comes: 'none' for a writer below 0 -/
def numL (o : OpV) : List UInt8 := if o.nl = true then [110, 105, 108] else Lib.itoa o.val
def fromL (ix : Nat → Int) : Option Nat → List UInt8
  | none => []
  | some t => [32, 102, 114, 111, 109, 32] ++ nameL (ix t)
def valL (ix : Nat → Int) (o : OpV) (s : Option Nat) : List UInt8 := numL o ++ fromL ix s

/-- the writer as a number -/
def wrI : Option Nat → Int
  | none => -1
  | some t => t

theorem numL_length (o : OpV) (h : i64 o.val) : (numL o).length ≤ 21 := by
  unfold numL
  split
  · simp
  · exact Lib.itoa_length_le _ h.1 h.2

theorem cat2 (a b : List UInt8) : (⟨a.toArray⟩ : ByteArray) ++ ⟨b.toArray⟩ = ⟨(a ++ b).toArray⟩ := by
  apply ByteArray.ext
  simp [ByteArray.data_append]

theorem cat3 (a b c : List UInt8) : (⟨a.toArray⟩ : ByteArray) ++ ⟨b.toArray⟩ ++ ⟨c.toArray⟩ = ⟨(a ++ (b ++ c)).toArray⟩ := by
  rw [cat2, cat2, List.append_assoc]

set_option maxHeartbeats 2000000 in
/-- zzs8852cval -/
theorem val_any (o : OpV) (s : Option Nat) (w : World) (h : Hist w Hb tb n ix ob oc om ops) (ho : i64 o.val) (hs : ∀ t, s = some t → t < n) :
    Calls Ybad.prog 13 #[.slice (some ⟨tb, 0, none⟩) n n, o.v, .int .i32 (wrI s)] w fun e w' => e = .returned (.string ⟨(valL ix o s).toArray⟩) ∧ Below w.heap.size w w' := by
  have hf : ∀ w2, Below w.heap.size w w2 → Calls Ybad.prog 11 #[.int .i64 o.val, .int .i64 10] w2 _ := fun w2 hb => fmt_any o.val ho w2 (h.tab.grow hb)
  have HF := hid hf
  have hl := Lib.itoa_length_le _ ho.1 ho.2
  have hn := h.hn
  obtain ⟨wr, key, val, nl⟩ := o
  unfold OpV.v
  simp only at HF hl ⊢
  clear hf
  cases s with
  | none =>
    unfold wrI
    cases nl with
    | true =>
      go_enter Ybad.func13, Ybad.ntmps13
      go_wp2
      go_ret
      exact ⟨by simp [valL, numL, fromL], (Below.refl _ _).alloc (Nat.le_refl _) _⟩
    | false =>
      go_enter Ybad.func13, Ybad.ntmps13
      go_wp2_with (go_at_call 11; refine (HF.out _ ((Below.refl _ _).alloc (Nat.le_refl _) _)).mono ?_; rintro e w1 ⟨rfl, hb⟩)
      go_ret
      refine ⟨by simp [valL, numL, fromL], ?_⟩
      exact ((Below.refl _ _).alloc (Nat.le_refl _) _).trans (below_le hb (by simp))
  | some t =>
    have ht := hs t rfl
    have hN : ∀ w2, Below w.heap.size w w2 → Calls Ybad.prog 12 #[.slice (some ⟨tb, 0, none⟩) n n, .int .i32 (t : Int)] w2 _ := fun w2 hb => name_any t w2 (h.grow hb) ht
    have HN := hid hN
    have hnl := nameL_length _ (h.ixr t ht)
    unfold wrI
    clear hN h hs
    have h9 : ¬ 9223372036854775807 < 9 + (nameL (ix t)).length := by omega
    have h6 : ¬ 9223372036854775807 < (Lib.itoa val).length + 6 := by omega
    have h7 : ¬ 9223372036854775807 < (Lib.itoa val).length + 6 + (nameL (ix t)).length := by omega
    cases nl with
    | true =>
      go_enter Ybad.func13, Ybad.ntmps13
      go_wp2_with (go_at_call 12; refine (HN.out _ ((Below.refl _ _).alloc (Nat.le_refl _) _)).mono ?_; rintro e w1 ⟨rfl, hb⟩)
      go_ret
      refine ⟨?_, ((Below.refl _ _).alloc (Nat.le_refl _) _).trans (below_le hb (by simp))⟩
      rfl
    | false =>
      go_enter Ybad.func13, Ybad.ntmps13
      go_wp2_with (first
        | (go_at_call 11; refine (HF.out _ ((Below.refl _ _).alloc (Nat.le_refl _) _)).mono ?_; rintro e w1 ⟨rfl, hb⟩; have hb1 := ((Below.refl w.heap.size w).alloc (Nat.le_refl _) (Obj.cells #[.bool wr, .int .i64 key, .int .i64 val, .bool false] 35)).trans (below_le hb (by simp)))
        | (go_at_call 12; refine (HN.out _ hb1).mono ?_; rintro e w2 ⟨rfl, hb2⟩))
      go_ret
      refine ⟨?_, hb1.trans (below_le hb2 hb1.size)⟩
      exact congrArg (fun z => Ending.returned (.string z)) (cat3 _ _ _)

/-- one word -/
theorem row1 (w : World) (a : List UInt8) : (w.alloc (.cells #[.string ⟨a.toArray⟩] 9)).rowIs w.heap.size 9 1 (wordF [a]) :=
  ⟨_, Deep.blk_alloc_new _ _, rfl, fun i hi => by obtain rfl : i = 0 := by omega
                                                  rfl⟩
theorem row3 (w : World) (a b c : List UInt8) : (w.alloc (.cells #[.string ⟨a.toArray⟩, .string ⟨b.toArray⟩, .string ⟨c.toArray⟩] 9)).rowIs w.heap.size 9 3 (wordF [a, b, c]) :=
  ⟨_, Deep.blk_alloc_new _ _, rfl, fun i hi => by
    match i, hi with
    | 0, _ => rfl
    | 1, _ => rfl
    | 2, _ => rfl⟩

/-- put of one word that the caller has just laid -/
theorem put1 (w0 : World) (b : Nat) (hp : Value) (l a : List UInt8) (w : World) (q : Nat) (hq : q = w.heap.size) (h : Tx w0 b hp w l) (hlen : l.length + a.length ≤ cap46) :
    Calls Ybad.prog 21 #[.pointer (some ⟨b, 0, none⟩), .slice (some ⟨q, 0, none⟩) 1 1] (w.alloc (.cells #[.string ⟨a.toArray⟩] 9)) fun e w' => e = .returned (.tuple #[]) ∧ Tx w0 b hp w' (l ++ a) := by
  subst hq
  have := put_any w0 b hp l [a] w.heap.size 1 _ (h.grow ((Below.refl _ _).alloc (Nat.le_refl _) _)) (by simp) (by simpa using hlen) (row1 w a)
  simpa using this

theorem put3 (w0 : World) (b : Nat) (hp : Value) (l a c d : List UInt8) (w : World) (q : Nat) (hq : q = w.heap.size) (h : Tx w0 b hp w l) (hlen : l.length + (a ++ c ++ d).length ≤ cap46) :
    Calls Ybad.prog 21 #[.pointer (some ⟨b, 0, none⟩), .slice (some ⟨q, 0, none⟩) 3 3] (w.alloc (.cells #[.string ⟨a.toArray⟩, .string ⟨c.toArray⟩, .string ⟨d.toArray⟩] 9)) fun e w' => e = .returned (.tuple #[]) ∧ Tx w0 b hp w' (l ++ (a ++ c ++ d)) := by
  subst hq
  have := put_any w0 b hp l [a, c, d] w.heap.size 3 _ (h.grow ((Below.refl _ _).alloc (Nat.le_refl _) _)) (by simp) (by simpa [Nat.add_assoc] using hlen) (row3 w a c d)
  simpa using this

end Go.Proofs.YbulkgahmDoor
