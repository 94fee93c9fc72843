import Derived.Test.YbulkgahmDoorLib
namespace Go.Proofs.YbulkgahmDoor
open Go.RowKit Go.Zz

theorem Ybad.info2 : (Ybad.prog.info? 2).map (fun i => (i.zero, i.size, i.bytes)) = some (some (.int .i64 0), 1, 8) := by kernel_rfl
theorem Ybad.info21 : (Ybad.prog.info? 21).map (fun i => (i.zero, i.size, i.bytes)) = some (some (.int .i32 0), 1, 4) := by kernel_rfl
theorem Ybad.info35 : (Ybad.prog.info? 35).map (fun i => (i.zero, i.size, i.bytes)) = some (some (.agg #[.bool false, .int .i64 0, .int .i64 0, .bool false]), 4, 32) := by kernel_rfl

theorem vals_mem {n : Nat} {f : Nat → Value} {j : Nat} {u : Value} (h : (vals n f)[j]? = some u) : j < n ∧ u = f j := by
  rcases Nat.lt_or_ge j n with hj | hj
  · rw [vals_get _ _ _ hj] at h
    cases h
    exact ⟨hj, rfl⟩
  · rw [List.getElem?_eq_none (by rw [vals_length]; exact hj)] at h; cases h

theorem vals_all {n : Nat} {f : Nat → Value} (h : ∀ j, j < n → (f j).oneCell' = true) : ∀ u ∈ vals n f, u.oneCell' = true := by
  intro u hu
  simp only [vals, List.mem_map, List.mem_range] at hu
  obtain ⟨j, hj, rfl⟩ := hu
  exact h j hj

theorem opF_one (f : Nat → OpV) (j : Nat) : (opF f j).oneCell' = true := by
  unfold opF
  split <;> rfl

/-- slices.Clone of integers that are not nil -/
theorem clone4_pos (b off L c : Nat) (X : Nat → Int) (w : World) (hL : L ≤ 1048576) (hX : ∀ i, i < L → w.cell? ⟨b, off + i, none⟩ = some (.int .i64 (X i))) :
    Calls Ybad.prog 4 #[.slice (some ⟨b, off, none⟩) L c] w fun e w' => ∃ v', e = .returned v' ∧ Vec w' w.heap.size 2 1 v' L (fun i => .int .i64 (X i)) ∧ Below w.heap.size w w' := by
  obtain ⟨i0, hi, hzz⟩ := Option.map_eq_some_iff.1 Ybad.info2
  simp only [Prod.mk.injEq] at hzz
  obtain ⟨hz0, hz1, hz2⟩ := hzz
  refine (Ybad.slices_Clone_f4 i0 _ 1 8 hi hz0 hz1 hz2 rfl (by decide) Ybad.sizeOf2 b off L c (vals (L * 1) (fun i => .int .i64 (X i))) w (vals_length _ _) (by unfold maxLen; omega) (by omega) (fun j u hj => ?_) (vals_all fun j _ => rfl)).mono ?_
  · obtain ⟨hj', rfl⟩ := vals_mem hj
    exact hX j (by omega)
  · rintro e w' ⟨v', rfl, ho, _, hb⟩
    exact ⟨v', rfl, ho, hb⟩

theorem clone7_pos (b L c : Nat) (X : Nat → Int) (w : World) (hL : L ≤ 1048576) (hX : ∀ i, i < L → w.cell? ⟨b, i, none⟩ = some (.int .i32 (X i))) :
    Calls Ybad.prog 7 #[.slice (some ⟨b, 0, none⟩) L c] w fun e w' => ∃ v', e = .returned v' ∧ Vec w' w.heap.size 21 1 v' L (fun i => .int .i32 (X i)) ∧ Below w.heap.size w w' := by
  obtain ⟨i0, hi, hzz⟩ := Option.map_eq_some_iff.1 Ybad.info21
  simp only [Prod.mk.injEq] at hzz
  obtain ⟨hz0, hz1, hz2⟩ := hzz
  refine (Ybad.slices_Clone_f7 i0 _ 1 4 hi hz0 hz1 hz2 rfl (by decide) Ybad.sizeOf21 b 0 L c (vals (L * 1) (fun i => .int .i32 (X i))) w (vals_length _ _) (by unfold maxLen; omega) (by omega) (fun j u hj => ?_) (vals_all fun j _ => rfl)).mono ?_
  · obtain ⟨hj', rfl⟩ := vals_mem hj
    rw [Nat.zero_add]
    exact hX j (by omega)
  · rintro e w' ⟨v', rfl, ho, _, hb⟩
    exact ⟨v', rfl, ho, hb⟩

theorem clone5_pos (b L c : Nat) (f : Nat → OpV) (w : World) (hL : L ≤ 1048576) (hX : ∀ i, i < L * 4 → w.cell? ⟨b, i, none⟩ = some (opF f i)) :
    Calls Ybad.prog 5 #[.slice (some ⟨b, 0, none⟩) L c] w fun e w' => ∃ v', e = .returned v' ∧ Vec w' w.heap.size 35 4 v' L (opF f) ∧ Below w.heap.size w w' := by
  obtain ⟨i0, hi, hzz⟩ := Option.map_eq_some_iff.1 Ybad.info35
  simp only [Prod.mk.injEq] at hzz
  obtain ⟨hz0, hz1, hz2⟩ := hzz
  refine (Ybad.slices_Clone_f5 i0 _ 4 32 hi hz0 hz1 hz2 rfl (by decide) Ybad.sizeOf35 b 0 L c (vals (L * 4) (opF f)) w (vals_length _ _) (by unfold maxLen; omega) (by omega) (fun j u hj => ?_) (vals_all fun j _ => opF_one f j)).mono ?_
  · obtain ⟨hj', rfl⟩ := vals_mem hj
    rw [Nat.zero_add]
    exact hX j hj'
  · rintro e w' ⟨v', rfl, ho, _, hb⟩
    exact ⟨v', rfl, ho, hb⟩

set_option maxHeartbeats 2000000 in
set_option maxRecDepth 100000 in
theorem clone4_zero (a : Addr) (c : Nat) (w : World) :
    Calls Ybad.prog 4 #[.slice (some a) 0 c] w fun e w' => ∃ v', e = .returned v' ∧ Vec w' w.heap.size 2 1 v' 0 (fun _ => .int .i64 0) ∧ Below w.heap.size w w' := by
  obtain ⟨i0, hi, hzz⟩ := Option.map_eq_some_iff.1 Ybad.info2
  simp only [Prod.mk.injEq] at hzz
  obtain ⟨hz0, hz1, hz2⟩ := hzz
  have q22 : ∀ (w : World) (a : Option Addr) (n c n' c' : Nat), (binOp .eql 22 (.slice a n c) (.slice none n' c')).run Ybad.prog w = .ok (.bool a.isNone) w := fun w a n c n' c' => Lib.run_eql_slice_nil w _ _ a n c n' c' Ybad.underlying22
  go_enter Ybad.func4, Ybad.ntmps4
  go_wp2_with (at_builtin; refine wpList_append_own _ rfl _ _ 22 rfl w.heap.size 2 i0 (.int .i64 0) 1 8 Ybad.underlying22 hi hz0 hz1 hz2 rfl (by decide) _ _ _ rfl (World.ownsRow_made w #[] 0 (Nat.le_refl _) (Nat.zero_le _) rfl) a 0 c [] rfl rfl (by intro j u hj; simp at hj) (by intro u hu; cases hu) (by unfold maxLen; omega) (by omega) (by simp) ?_)
  intro v' w1 hown hgrow hnil
  go_wp2
  go_ret
  refine ⟨v', rfl, by simpa [Vec, vals] using hown, ?_⟩
  exact ((Below.refl _ w).alloc (Nat.le_refl _) _).grown hgrow (by simp) (by intro k hk; simp [Value.ownBlock] at hk; omega)

/-- slices.Clone of integers, whatever the slice -/
theorem clone4_any (at0 : Option Addr) (b off L c : Nat) (X : Nat → Int) (w : World) (hL : L ≤ 1048576) (ha : 0 < L → at0 = some ⟨b, off, none⟩) (hX : ∀ i, i < L → w.cell? ⟨b, off + i, none⟩ = some (.int .i64 (X i))) :
    Calls Ybad.prog 4 #[.slice at0 L c] w fun e w' => ∃ v', e = .returned v' ∧ Vec w' w.heap.size 2 1 v' L (fun i => .int .i64 (X i)) ∧ Below w.heap.size w w' := by
  by_cases h0 : 0 < L
  · rw [ha h0]
    exact clone4_pos b off L c X w hL hX
  · obtain rfl : L = 0 := by omega
    cases at0 with
    | none =>
      refine (Ybad.slices_Clone_nil_f4 0 c w).mono ?_
      rintro e w' ⟨rfl, rfl⟩
      exact ⟨_, rfl, Vec.nil _ _ _ _ _, Below.refl _ _⟩
    | some a =>
      refine (clone4_zero a c w).mono ?_
      rintro e w' ⟨v', rfl, hv, hb⟩
      exact ⟨v', rfl, hv.congr (fun j hj => by omega), hb⟩

/-- .. of the chain: nil or a row of the call's own -/
theorem clone7_any (v : Value) (B L : Nat) (X : Nat → Int) (w : World) (hL : L ≤ 1048576) (hv : Vec w B 21 1 v L (fun i => .int .i32 (X i))) :
    Calls Ybad.prog 7 #[v] w fun e w' => ∃ v', e = .returned v' ∧ Vec w' w.heap.size 21 1 v' L (fun i => .int .i32 (X i)) ∧ Below w.heap.size w w' := by
  rcases hv.shape with ⟨rfl, rfl⟩ | ⟨b, cap, rfl, _⟩
  · refine (Ybad.slices_Clone_nil_f7 0 0 w).mono ?_
    rintro e w' ⟨rfl, rfl⟩
    exact ⟨_, rfl, Vec.nil _ _ _ _ _, Below.refl _ _⟩
  · exact clone7_pos b L cap X w hL (fun i hi => hv.cell (by omega))

set_option maxHeartbeats 1000000 in
theorem equal15_nil (a b : Option Addr) (c d : Nat) (w : World) : Calls Ybad.prog 15 #[.slice a 0 c, .slice b 0 d] w fun e w' => e = .returned (.bool true) ∧ ∃ q, w' = w.drewN q := by
  go_enter Ybad.func15, Ybad.ntmps15
  go_wp2
  go_loopw [13, 5] (fun i _ wr => i = .int .i64 0 ∧ wr = w) (fun _ _ _ => 0)
  case atStart => exact ⟨rfl, rfl⟩
  case round =>
    obtain ⟨rfl, rfl⟩ := hrel
    go_wp2
    go_ret
    exact ⟨rfl, 0, rfl⟩

theorem allEq_self (xs : List Int) : Lib.allEq (fun x y : Int => x == y) xs xs = true := by
  induction xs with
  | nil => rfl
  | cons x xs ih => simp [Lib.allEq, ih]

theorem equal15_any (v v' : Value) (B B' L : Nat) (X : Nat → Int) (w : World) (hL : L ≤ 1048576) (hv : Vec w B 21 1 v L (fun i => .int .i32 (X i))) (hv' : Vec w B' 21 1 v' L (fun i => .int .i32 (X i))) :
    Calls Ybad.prog 15 #[v, v'] w fun e w' => e = .returned (.bool true) ∧ ∃ q, w' = w.drewN q := by
  by_cases h0 : L = 0
  · subst h0
    rcases hv.shape with ⟨rfl, _⟩ | ⟨b, cap, rfl, _⟩ <;> rcases hv'.shape with ⟨rfl, _⟩ | ⟨b', cap', rfl, _⟩ <;> exact equal15_nil _ _ _ _ w
  · rcases hv.shape with ⟨rfl, h⟩ | ⟨b, cap, rfl, _⟩
    · exact absurd h h0
    rcases hv'.shape with ⟨rfl, h⟩ | ⟨b', cap', rfl, _⟩
    · exact absurd h h0
    have := Ybad.slices_Equal (α := Int) (Value.int .i32) (fun x y => x == y) (NeqAt.int _ _ _) b 0 L cap b' 0 L cap' ((List.range L).map X) ((List.range L).map X) w (by simp) (by simp) (by omega) (by omega)
      (fun j hj => by simp at hj; simpa [hj] using hv.cell (j := j) (by omega)) (fun j hj => by simp at hj; simpa [hj] using hv'.cell (j := j) (by omega))
    rw [allEq_self] at this
    exact this

end Go.Proofs.YbulkgahmDoor
