import Derived.Test.YbulkgahmBeyond
namespace Go.Proofs.Ybulkgahm
open Go.RowKit Go.Zz

theorem Yba.info31 : (Yba.prog.info? 31).map (fun i => (i.zero, i.size, i.bytes)) = some (some (.agg #[.int .i32 0, .int .u8 0]), 2, 8) := by kernel_rfl
theorem Yba.info37 : (Yba.prog.info? 37).map (fun i => (i.zero, i.size, i.bytes)) = some (some (.agg #[.int .u8 0, .int .u8 0, .int .i32 0, .int .i32 0]), 4, 12) := by kernel_rfl
theorem Yba.size31 : (Yba.prog.info? 31).map (·.size) = some 2 := by kernel_rfl
theorem Yba.size37 : (Yba.prog.info? 37).map (·.size) = some 4 := by kernel_rfl

theorem make31 (n : Nat) (hn : n ≤ 1048576) (wx : World) : (Instr.makeSlice 25 (.int .i64 (n : Int)) (.int .i64 (n : Int))).run Yba.prog wx = .ok (.slice (some ⟨wx.heap.size, 0, none⟩) n n) (wx.alloc (.cells (madeCells #[.int .i32 0, .int .u8 0] (n * 2)) 31)) :=
  run_make_any Yba.prog 25 31 _ _ 2 8 Yba.underlying25 Yba.info31 rfl n (by omega) (by omega) wx
theorem make37 (n : Nat) (hn : n ≤ 1048576) (wx : World) : (Instr.makeSlice 24 (.int .i64 (n : Int)) (.int .i64 (n : Int))).run Yba.prog wx = .ok (.slice (some ⟨wx.heap.size, 0, none⟩) n n) (wx.alloc (.cells (madeCells #[.int .u8 0, .int .u8 0, .int .i32 0, .int .i32 0] (n * 4)) 37)) :=
  run_make_any Yba.prog 24 37 _ _ 4 12 Yba.underlying24 Yba.info37 rfl n (by omega) (by omega) wx

/-- the cells of the transactions, the first k of them filled -/
def txF (k : Nat) : Nat → Value := fun j => if j % 2 = 0 then .int .i32 (if j / 2 < k then (j / 2 : Nat) else 0) else .int .u8 0

/-- the cells of the operations, the first k of them filled -/
def opF (K Wd X I : Nat → Int) (k : Nat) : Nat → Value := fun j =>
  if j % 4 = 0 then .int .u8 (if j / 4 < k then K (j / 4) else 0)
  else if j % 4 = 1 then .int .u8 (if j / 4 < k then Wd (j / 4) else 0)
  else if j % 4 = 2 then .int .i32 (if j / 4 < k then X (j / 4) else 0)
  else .int .i32 (if j / 4 < k then I (j / 4) else 0)

theorem tx_start (w : World) (n : Nat) : (w.alloc (.cells (madeCells #[.int .i32 0, .int .u8 0] (n * 2)) 31)).rowIs w.heap.size 31 (n * 2) (txF 0) := by
  refine (rowIs_madeN w _ _ _).congr fun j hj => ?_
  have : j % 2 = 0 ∨ j % 2 = 1 := by omega
  rcases this with h | h <;> simp [txF, h]

theorem op_start (w : World) (K Wd X I : Nat → Int) (n : Nat) : (w.alloc (.cells (madeCells #[.int .u8 0, .int .u8 0, .int .i32 0, .int .i32 0] (n * 4)) 37)).rowIs w.heap.size 37 (n * 4) (opF K Wd X I 0) := by
  refine (rowIs_madeN w _ _ _).congr fun j hj => ?_
  have : j % 4 = 0 ∨ j % 4 = 1 ∨ j % 4 = 2 ∨ j % 4 = 3 := by omega
  rcases this with h | h | h | h <;> simp [opF, h]

theorem tx_one (k j : Nat) : (txF k j).oneCell' = true := by unfold txF; split <;> rfl
theorem op_one (K Wd X I : Nat → Int) (k j : Nat) : (opF K Wd X I k j).oneCell' = true := by unfold opF; split <;> (try rfl); split <;> (try rfl); split <;> rfl

theorem tx_step {wr : World} {B n k : Nat} (h : wr.rowIs B 31 (n * 2) (txF k)) :
    ((wr.setCell ⟨B, k * 2, none⟩ (.int .i32 (k : Int))).setCell ⟨B, k * 2 + 1, none⟩ (.int .u8 0)).rowIs B 31 (n * 2) (txF (k + 1)) := by
  refine ((h.set (k * 2) _).set (k * 2 + 1) _).congr fun j hj => ?_
  by_cases h1 : j = k * 2 + 1
  · subst h1
    have e2 : (k * 2 + 1) % 2 = 1 := by omega
    simp [txF, e2]
  · by_cases h2 : j = k * 2
    · subst h2
      have e1 : (k * 2) / 2 = k := by omega
      simp [txF, e1]
    · simp only [if_neg h1, if_neg h2, txF]
      have e : j / 2 < k ↔ j / 2 < k + 1 := by omega
      simp only [e]

theorem op_step {wr : World} {B n k : Nat} {K Wd X I : Nat → Int} (h : wr.rowIs B 37 (n * 4) (opF K Wd X I k)) {x : Int} (hx : X k = x) :
    ((((wr.setCell ⟨B, k * 4, none⟩ (.int .u8 (K k))).setCell ⟨B, k * 4 + 1, none⟩ (.int .u8 (Wd k))).setCell ⟨B, k * 4 + 2, none⟩ (.int .i32 x)).setCell ⟨B, k * 4 + 3, none⟩ (.int .i32 (I k))).rowIs B 37 (n * 4) (opF K Wd X I (k + 1)) := by
  subst hx
  refine ((((h.set (k * 4) _).set (k * 4 + 1) _).set (k * 4 + 2) _).set (k * 4 + 3) _).congr fun j hj => ?_
  by_cases h3 : j = k * 4 + 3
  · subst h3
    have e1 : (k * 4 + 3) / 4 = k := by omega
    have e2 : (k * 4 + 3) % 4 = 3 := by omega
    simp [opF, e1, e2]
  by_cases h2 : j = k * 4 + 2
  · subst h2
    have e1 : (k * 4 + 2) / 4 = k := by omega
    have e2 : (k * 4 + 2) % 4 = 2 := by omega
    simp [opF, e1, e2]
  by_cases h1 : j = k * 4 + 1
  · subst h1
    have e1 : (k * 4 + 1) / 4 = k := by omega
    have e2 : (k * 4 + 1) % 4 = 1 := by omega
    simp [opF, e1, e2]
  by_cases h0 : j = k * 4
  · subst h0
    have e1 : (k * 4) / 4 = k := by omega
    simp [opF, e1]
  simp only [if_neg h0, if_neg h1, if_neg h2, if_neg h3, opF]
  have e : j / 4 < k ↔ j / 4 < k + 1 := by omega
  simp only [e]

theorem op_c0 {wr : World} {B n : Nat} {K Wd X I : Nat → Int} (h : wr.rowIs B 37 (n * 4) (opF K Wd X I n)) (i : Nat) (hi : i < n) : wr.cell? ⟨B, i * 4, none⟩ = some (.int .u8 (K i)) := by
  rw [h.cell (by omega)]
  have e1 : (i * 4) / 4 = i := by omega
  simp [opF, e1, hi]
theorem op_c1 {wr : World} {B n : Nat} {K Wd X I : Nat → Int} (h : wr.rowIs B 37 (n * 4) (opF K Wd X I n)) (i : Nat) (hi : i < n) : wr.cell? ⟨B, i * 4 + 1, none⟩ = some (.int .u8 (Wd i)) := by
  rw [h.cell (by omega)]
  have e1 : (i * 4 + 1) / 4 = i := by omega
  have e2 : (i * 4 + 1) % 4 = 1 := by omega
  simp [opF, e1, e2, hi]
theorem op_c2 {wr : World} {B n : Nat} {K Wd X I : Nat → Int} (h : wr.rowIs B 37 (n * 4) (opF K Wd X I n)) (i : Nat) (hi : i < n) : wr.cell? ⟨B, i * 4 + 2, none⟩ = some (.int .i32 (X i)) := by
  rw [h.cell (by omega)]
  have e1 : (i * 4 + 2) / 4 = i := by omega
  have e2 : (i * 4 + 2) % 4 = 2 := by omega
  simp [opF, e1, e2, hi]
theorem op_c3 {wr : World} {B n : Nat} {K Wd X I : Nat → Int} (h : wr.rowIs B 37 (n * 4) (opF K Wd X I n)) (i : Nat) (hi : i < n) : wr.cell? ⟨B, i * 4 + 3, none⟩ = some (.int .i32 (I i)) := by
  rw [h.cell (by omega)]
  have e1 : (i * 4 + 3) / 4 = i := by omega
  have e2 : (i * 4 + 3) % 4 = 3 := by omega
  simp [opF, e1, e2, hi]
theorem tx_c0 {wr : World} {B n : Nat} (h : wr.rowIs B 31 (n * 2) (txF n)) (i : Nat) (hi : i < n) : wr.cell? ⟨B, i * 2, none⟩ = some (.int .i32 (i : Int)) := by
  rw [h.cell (by omega)]
  have e1 : (i * 2) / 2 = i := by omega
  simp [txF, e1, hi]
theorem tx_c1 {wr : World} {B n : Nat} (h : wr.rowIs B 31 (n * 2) (txF n)) (i : Nat) (hi : i < n) : wr.cell? ⟨B, i * 2 + 1, none⟩ = some (.int .u8 0) := by
  rw [h.cell (by omega)]
  have e2 : (i * 2 + 1) % 2 = 1 := by omega
  simp [txF, e2]

/-- the four cells of the schedule: its name, its operations, its transactions, its items -/
def schF (o t : Value) : Nat → Value := fun j => if j = 0 then .string ⟨#[115]⟩ else if j = 1 then o else if j = 2 then t else .slice none 0 0

theorem sch_start (w : World) (o t : Value) : (w.alloc (.cells #[.string ⟨#[115]⟩, o, t, .slice none 0 0] 28)).rowIs w.heap.size 28 4 (schF o t) := by
  refine World.rowIs_alloc w _ _ _ fun i hi => ?_
  have : i = 0 ∨ i = 1 ∨ i = 2 ∨ i = 3 := by simp at hi; omega
  rcases this with rfl | rfl | rfl | rfl <;> simp [schF]

theorem sch_ops {wr : World} {B : Nat} {o t : Value} (h : wr.rowIs B 28 4 (schF o t)) (o' : Value) : (wr.setCell ⟨B, 1, none⟩ o').rowIs B 28 4 (schF o' t) := by
  refine (h.set 1 o').congr fun i hi => ?_
  have : i = 0 ∨ i = 1 ∨ i = 2 ∨ i = 3 := by omega
  rcases this with rfl | rfl | rfl | rfl <;> simp [schF]

theorem sch_c0 {wr : World} {B : Nat} {o t : Value} (h : wr.rowIs B 28 4 (schF o t)) : wr.cell? ⟨B, 0, none⟩ = some (.string ⟨#[115]⟩) := by rw [h.cell (by omega)]; simp [schF]
theorem sch_c1 {wr : World} {B : Nat} {o t : Value} (h : wr.rowIs B 28 4 (schF o t)) : wr.cell? ⟨B, 1, none⟩ = some o := by rw [h.cell (by omega)]; simp [schF]
theorem sch_c2 {wr : World} {B : Nat} {o t : Value} (h : wr.rowIs B 28 4 (schF o t)) : wr.cell? ⟨B, 2, none⟩ = some t := by rw [h.cell (by omega)]; simp [schF]
theorem sch_c3 {wr : World} {B : Nat} {o t : Value} (h : wr.rowIs B 28 4 (schF o t)) : wr.cell? ⟨B, 3, none⟩ = some (.slice none 0 0) := by rw [h.cell (by omega)]; simp [schF]

end Go.Proofs.Ybulkgahm
