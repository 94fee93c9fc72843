import Derived.Test.YbulkgahmDoorHist
namespace Go.Proofs.YbulkgahmDoor
open Go.RowKit Go.Zz
variable {Hb tb n : Nat} {ix : Nat → Int} {ob oc om : Nat → Nat} {ops : Nat → Nat → OpV}

/-- op number q is the first read of the key -/
structure FirstAt (f : Nat → OpV) (m : Nat) (key : Int) (q : Nat) : Prop where
  lt : q < m
  ky : (f q).key = key
  rd : (f q).wr = false
  no : ∀ j, j < q → (f j).key = key → (f j).wr = true

/-- four stores into a block of four cells -/
def put4 (w : World) (R : Nat) (a b c d : Value) : World := (((w.setCell ⟨R, 0, none⟩ a).setCell ⟨R, 1, none⟩ b).setCell ⟨R, 2, none⟩ c).setCell ⟨R, 3, none⟩ d

theorem put4_heap {w : World} {R : Nat} {c0 c1 c2 c3 : Value} (h : w.heap[R]? = some (.cells #[c0, c1, c2, c3] 35 (0, 0))) (a b c d : Value) : (put4 w R a b c d).heap[R]? = some (.cells #[a, b, c, d] 35 (0, 0)) :=
  heap_set (heap_set (heap_set (heap_set h 0 a) 1 b) 2 c) 3 d

theorem put4_size (w : World) (R : Nat) (a b c d : Value) : (put4 w R a b c d).heap.size = w.heap.size := by simp [put4]

theorem put4_below {B : Nat} {w0 w : World} {R : Nat} (h : Below B w0 w) (hR : B ≤ R) (a b c d : Value) : Below B w0 (put4 w R a b c d) :=
  (((h.setCell (p := ⟨R, 0, none⟩) hR a).setCell (p := ⟨R, 1, none⟩) hR b).setCell (p := ⟨R, 2, none⟩) hR c).setCell (p := ⟨R, 3, none⟩) hR d

theorem cells4 {w : World} {R : Nat} {c0 c1 c2 c3 : Value} (h : w.heap[R]? = some (.cells #[c0, c1, c2, c3] 35 (0, 0))) : w.cell? ⟨R, 0, none⟩ = some c0 ∧ w.cell? ⟨R, 1, none⟩ = some c1 ∧ w.cell? ⟨R, 2, none⟩ = some c2 ∧ w.cell? ⟨R, 3, none⟩ = some c3 := by
  refine ⟨?_, ?_, ?_, ?_⟩ <;> rw [Lib.cell_of_heap h] <;> rfl

set_option maxHeartbeats 2000000 in
set_option maxRecDepth 100000 in
theorem firstRead_any (t q : Nat) (key : Int) (w : World) (h : Hist w Hb tb n ix ob oc om ops) (ht : t < n) (hq : FirstAt (ops t) (om t) key q) :
    Calls Ybad.prog 20 #[.pointer (some ⟨Hb, 0, none⟩), .int .i32 (t : Int), .int .i64 key] w fun e w' => e = .returned (ops t q).v ∧ Below w.heap.size w w' := by
  have hd := h.head
  have hl := h.opsl t ht
  have hn := h.hn
  obtain ⟨m, hm⟩ : ∃ m, m = om t := ⟨_, rfl⟩
  obtain ⟨g, hg⟩ : ∃ g, g = ob t := ⟨_, rfl⟩
  obtain ⟨f, hf⟩ : ∃ f, f = ops t := ⟨_, rfl⟩
  have hmm := h.om_le t ht
  have H0 := hid (h.c0 t ht)
  have H1 := hid (h.c1 t ht)
  have H2 := hid (h.c2 t ht)
  have H3 := hid (h.c3 t ht)
  rw [← hm] at hl hmm hq H0 H1 H2 H3
  rw [← hg] at hl H0 H1 H2 H3
  rw [← hf] at hq H0 H1 H2 H3 ⊢
  clear h hm hg hf
  have hqm := hq.lt
  have HQ := hid hq
  clear hq
  have hdl : Hb < w.heap.size := World.block_lt_of_cell? w ⟨Hb, 0, none⟩ hd
  have hll : tb < w.heap.size := World.block_lt_of_cell? w ⟨tb, t * 3 + 2, none⟩ hl
  go_enter Ybad.func20, Ybad.ntmps20
  go_wp2
  go_loopw [18, 8] (fun i _ wr => ∃ k : Nat, k ≤ q ∧ i = .int .i64 k ∧ (∃ c0 c1 c2 c3, wr.heap[w.heap.size]? = some (.cells #[c0, c1, c2, c3] 35 (0, 0))) ∧ Below w.heap.size w wr) (fun i _ _ => m - (intOf i).toNat)
  case atStart =>
    refine ⟨0, by omega, rfl, ⟨_, _, _, _, Deep.blk_alloc_new _ _⟩, (Below.refl _ _).alloc (Nat.le_refl _) _⟩
  case round =>
    obtain ⟨k, hk, rfl, ⟨c0, c1, c2, c3, hR⟩, hB⟩ := hrel
    have hkm : k < m := by omega
    have g0 := cell_grow hB (H0.out k hkm)
    have g1 := cell_grow hB (H1.out k hkm)
    have g2 := cell_grow hB (H2.out k hkm)
    have g3 := cell_grow hB (H3.out k hkm)
    have hRl := lt_of_heap hR
    obtain ⟨r0, r1, r2, r3⟩ := cells4 hR
    have f0 := Lib.frozen_of_heap hR 0
    have f1 := Lib.frozen_of_heap hR 1
    have f2 := Lib.frozen_of_heap hR 2
    have f3 := Lib.frozen_of_heap hR 3
    by_cases hkq : k = q
    · subst hkq
      have e1 : ((f k).key == key) = true := by simp [HQ.out.ky]
      rw [HQ.out.rd] at g0
      go_wp2
      have hW : ((put4 wr w.heap.size (.bool false) (.int .i64 (f k).key) (.int .i64 (f k).val) (.bool (f k).nl)).alloc (.cells #[.bool false, .int .i64 (f k).key, .int .i64 (f k).val, .bool (f k).nl] 35)).heap[w.heap.size]? = some (.cells #[.bool false, .int .i64 (f k).key, .int .i64 (f k).val, .bool (f k).nl] 35 (0, 0)) := by
        rw [Lib.alloc_old _ _ _ (by rw [put4_size]; exact hRl)]
        exact put4_heap hR _ _ _ _
      obtain ⟨q0, q1, q2, q3⟩ := cells4 hW
      unfold put4 at q0 q1 q2 q3
      refine bodyPost_ret (v := .agg #[.bool false, .int .i64 (f k).key, .int .i64 (f k).val, .bool (f k).nl]) (by simp [results, Ybad.results20, go_sem, q0, q1, q2, q3]) rfl ⟨?_, ?_⟩
      · unfold OpV.v
        rw [HQ.out.rd]
      · exact (put4_below hB (Nat.le_refl _) _ _ _ _).alloc (by have := put4_size wr w.heap.size (.bool false) (.int .i64 (f k).key) (.int .i64 (f k).val) (.bool (f k).nl); omega) _
    · have hB' := hid hB
      have HR := hid hR
      clear hB hR
      by_cases e1 : (f k).key = key
      · have e2 := HQ.out.no k (by omega) e1
        rw [e2] at g0
        have e1' : ((f k).key == key) = true := by simp [e1]
        have E1 := hid e1
        clear e1 e2
        go_wp2
        go_roundw
        case rel => exact ⟨k + 1, by omega, by go_num, ⟨_, _, _, _, (Lib.alloc_old _ _ _ hRl).trans HR.out⟩, hB'.out.alloc (by omega) _⟩
        case measure => simp [intOf]; omega
      · have e1' : ((f k).key == key) = false := by simp [e1]
        clear e1
        go_wp2
        go_roundw
        case rel => exact ⟨k + 1, by omega, by go_num, ⟨_, _, _, _, (Lib.alloc_old _ _ _ hRl).trans HR.out⟩, hB'.out.alloc (by omega) _⟩
        case measure => simp [intOf]; omega
end Go.Proofs.YbulkgahmDoor
