import Derived.Test.YbulkgaioRows
import Derived.Test.YbulkgaioBase
import Derived.Deep.DeepCutAuto
namespace Go.Proofs.Ybulkgaio
open Go.RowKit Go.Zz

theorem Yba.info28 : (Yba.prog.info? 28).map (fun i => (i.zero, i.size, i.bytes)) = some (some (.agg #[.string ⟨#[]⟩, .string ⟨#[]⟩, .int .i64 0]), 3, 40) := by kernel_rfl
theorem Yba.info5 : (Yba.prog.info? 5).map (fun i => (i.zero, i.size, i.bytes)) = some (some (.int .u8 0), 1, 1) := by kernel_rfl
theorem Yba.size28 : (Yba.prog.info? 28).map (·.size) = some 3 := by kernel_rfl
theorem Yba.size5 : (Yba.prog.info? 5).map (·.size) = some 1 := by kernel_rfl

theorem make28 (n : Nat) (hn : n ≤ 1048577) (wx : World) : (Instr.makeSlice 24 (.int .i64 (n : Int)) (.int .i64 (n : Int))).run Yba.prog wx = .ok (.slice (some ⟨wx.heap.size, 0, none⟩) n n) (wx.alloc (.cells (madeCells #[.string ⟨#[]⟩, .string ⟨#[]⟩, .int .i64 0] (n * 3)) 28)) :=
  run_make_any Yba.prog 24 28 _ _ 3 40 Yba.underlying24 Yba.info28 rfl n (by omega) (by omega) wx
theorem make5 (n : Nat) (hn : n ≤ 1048577) (wx : World) : (Instr.makeSlice 23 (.int .i64 (n : Int)) (.int .i64 (n : Int))).run Yba.prog wx = .ok (.slice (some ⟨wx.heap.size, 0, none⟩) n n) (wx.alloc (.cells (madeCells #[.int .u8 0] (n * 1)) 5)) :=
  run_make_any Yba.prog 23 5 _ _ 1 1 Yba.underlying23 Yba.info5 rfl n (by omega) (by omega) wx

/-- the cells of attributes, the first k of them filled -/
def atF (N V : Nat → ByteArray) (Ln : Nat → Int) (k : Nat) : Nat → Value := fun j =>
  if j % 3 = 0 then .string (if j / 3 < k then N (j / 3) else ⟨#[]⟩)
  else if j % 3 = 1 then .string (if j / 3 < k then V (j / 3) else ⟨#[]⟩)
  else .int .i64 (if j / 3 < k then Ln (j / 3) else 0)

theorem at_start (w : World) (N V : Nat → ByteArray) (Ln : Nat → Int) (n : Nat) : (w.alloc (.cells (madeCells #[.string ⟨#[]⟩, .string ⟨#[]⟩, .int .i64 0] (n * 3)) 28)).rowIs w.heap.size 28 (n * 3) (atF N V Ln 0) := by
  refine (rowIs_madeN w _ _ _).congr fun j hj => ?_
  have : j % 3 = 0 ∨ j % 3 = 1 ∨ j % 3 = 2 := by omega
  rcases this with h | h | h <;> simp [atF, h]

theorem at_one (N V : Nat → ByteArray) (Ln : Nat → Int) (k j : Nat) : (atF N V Ln k j).oneCell' = true := by unfold atF; split <;> (try rfl); split <;> rfl

theorem at_step {wr : World} {B n k : Nat} {N V : Nat → ByteArray} {Ln : Nat → Int} (h : wr.rowIs B 28 (n * 3) (atF N V Ln k)) :
    (((wr.setCell ⟨B, k * 3, none⟩ (.string (N k))).setCell ⟨B, k * 3 + 1, none⟩ (.string (V k))).setCell ⟨B, k * 3 + 2, none⟩ (.int .i64 (Ln k))).rowIs B 28 (n * 3) (atF N V Ln (k + 1)) := by
  refine (((h.set (k * 3) _).set (k * 3 + 1) _).set (k * 3 + 2) _).congr fun j hj => ?_
  by_cases h2 : j = k * 3 + 2
  · subst h2
    have e1 : (k * 3 + 2) / 3 = k := by omega
    have e2 : (k * 3 + 2) % 3 = 2 := by omega
    simp [atF, e1, e2]
  by_cases h1 : j = k * 3 + 1
  · subst h1
    have e1 : (k * 3 + 1) / 3 = k := by omega
    have e2 : (k * 3 + 1) % 3 = 1 := by omega
    simp [atF, e1, e2]
  by_cases h0 : j = k * 3
  · subst h0
    have e1 : (k * 3) / 3 = k := by omega
    simp [atF, e1]
  simp only [if_neg h0, if_neg h1, if_neg h2, atF]
  have e : j / 3 < k ↔ j / 3 < k + 1 := by omega
  simp only [e]

theorem atF_0 (N V : Nat → ByteArray) (Ln : Nat → Int) (n i : Nat) (hi : i < n) : atF N V Ln n (i * 3) = .string (N i) := by
  have e1 : (i * 3) / 3 = i := by omega
  simp [atF, e1, hi]
theorem atF_1 (N V : Nat → ByteArray) (Ln : Nat → Int) (n i : Nat) (hi : i < n) : atF N V Ln n (i * 3 + 1) = .string (V i) := by
  have e1 : (i * 3 + 1) / 3 = i := by omega
  have e2 : (i * 3 + 1) % 3 = 1 := by omega
  simp [atF, e1, e2, hi]
theorem atF_2 (N V : Nat → ByteArray) (Ln : Nat → Int) (n i : Nat) (hi : i < n) : atF N V Ln n (i * 3 + 2) = .int .i64 (Ln i) := by
  have e1 : (i * 3 + 2) / 3 = i := by omega
  have e2 : (i * 3 + 2) % 3 = 2 := by omega
  simp [atF, e1, e2, hi]

/-- the value of the last of n attributes turned to s -/
def lastV (V : Nat → ByteArray) (n : Nat) (s : ByteArray) : Nat → ByteArray := fun i => if i + 1 = n then s else V i

theorem atF_last (N V : Nat → ByteArray) (Ln : Nat → Int) (n : Nat) (s : ByteArray) (hn : 0 < n) (j : Nat) (hj : j < n * 3) :
    (if j = (n - 1) * 3 + 1 then .string s else atF N V Ln n j) = atF N (lastV V n s) Ln n j := by
  by_cases h : j = (n - 1) * 3 + 1
  · subst h
    rw [if_pos rfl, atF_1 _ _ _ _ _ (by omega)]
    simp [lastV]; omega
  · rw [if_neg h]
    have : j % 3 = 0 ∨ j % 3 = 1 ∨ j % 3 = 2 := by omega
    rcases this with h' | h' | h'
    · simp [atF, h']
    · have e : ¬ (j / 3 + 1 = n) := by omega
      simp [atF, h', lastV, e]
    · simp [atF, h']

/-- the nine cells of the reader -/
def orF (line : Int) (vc : Value) (objLine : Int) (ats : Value) (long : Bool) : Nat → Value := fun j =>
  if j = 0 then .pointer none else if j = 1 then .map none else if j = 2 then .int .i64 line else if j = 3 then .slice none 0 0 else if j = 4 then .slice none 0 0
  else if j = 5 then vc else if j = 6 then .int .i64 objLine else if j = 7 then ats else .bool long

theorem or_start (w : World) (line : Int) (vc : Value) (objLine : Int) (ats : Value) (long : Bool) :
    (w.alloc (.cells #[.pointer none, .map none, .int .i64 line, .slice none 0 0, .slice none 0 0, vc, .int .i64 objLine, ats, .bool long] 35)).rowIs w.heap.size 35 9 (orF line vc objLine ats long) := by
  refine World.rowIs_alloc w _ _ _ fun i hi => ?_
  have : i = 0 ∨ i = 1 ∨ i = 2 ∨ i = 3 ∨ i = 4 ∨ i = 5 ∨ i = 6 ∨ i = 7 ∨ i = 8 := by simp at hi; omega
  rcases this with rfl | rfl | rfl | rfl | rfl | rfl | rfl | rfl | rfl <;> simp [orF]

section
variable {wr : World} {B : Nat} {line : Int} {vc : Value} {objLine : Int} {ats : Value} {long : Bool}
theorem or_c0 (h : wr.rowIs B 35 9 (orF line vc objLine ats long)) : wr.cell? ⟨B, 0, none⟩ = some (.pointer none) := by rw [h.cell (by omega)]; simp [orF]
theorem or_c1 (h : wr.rowIs B 35 9 (orF line vc objLine ats long)) : wr.cell? ⟨B, 1, none⟩ = some (.map none) := by rw [h.cell (by omega)]; simp [orF]
theorem or_c2 (h : wr.rowIs B 35 9 (orF line vc objLine ats long)) : wr.cell? ⟨B, 2, none⟩ = some (.int .i64 line) := by rw [h.cell (by omega)]; simp [orF]
theorem or_c3 (h : wr.rowIs B 35 9 (orF line vc objLine ats long)) : wr.cell? ⟨B, 3, none⟩ = some (.slice none 0 0) := by rw [h.cell (by omega)]; simp [orF]
theorem or_c4 (h : wr.rowIs B 35 9 (orF line vc objLine ats long)) : wr.cell? ⟨B, 4, none⟩ = some (.slice none 0 0) := by rw [h.cell (by omega)]; simp [orF]
theorem or_c5 (h : wr.rowIs B 35 9 (orF line vc objLine ats long)) : wr.cell? ⟨B, 5, none⟩ = some vc := by rw [h.cell (by omega)]; simp [orF]
theorem or_c6 (h : wr.rowIs B 35 9 (orF line vc objLine ats long)) : wr.cell? ⟨B, 6, none⟩ = some (.int .i64 objLine) := by rw [h.cell (by omega)]; simp [orF]
theorem or_c7 (h : wr.rowIs B 35 9 (orF line vc objLine ats long)) : wr.cell? ⟨B, 7, none⟩ = some ats := by rw [h.cell (by omega)]; simp [orF]
theorem or_c8 (h : wr.rowIs B 35 9 (orF line vc objLine ats long)) : wr.cell? ⟨B, 8, none⟩ = some (.bool long) := by rw [h.cell (by omega)]; simp [orF]
end

/-- the bytes of a row of numbers, as a string -/
def strOf (U : Nat → Int) (M : Nat) : ByteArray := strOfNums ((List.range M).map U)

theorem conv_any (w : World) (ao : Option Addr) (M c vb vo : Nat) (U : Nat → Int) (ha : 0 < M → ao = some ⟨vb, vo, none⟩) (hc : ∀ i, i < M → w.cell? ⟨vb, vo + i, none⟩ = some (.int .u8 (U i))) (hao : ao = none → M = 0) :
    (convert 23 9 (.slice ao M c)).run Yba.prog w = .ok (.string (strOf U M)) w := by
  cases ao with
  | none =>
    obtain rfl := hao rfl
    exact run_convert_bytes_nil w 23 5 Yba.underlying23 Yba.underlying5 0 c 9 Yba.underlying9
  | some x =>
    by_cases h0 : M = 0
    · subst h0
      obtain ⟨xb, xo, xs⟩ := x
      rw [run_convert_bytes_string w 23 9 5 _ 0 c Yba.underlying23 Yba.underlying5 Yba.underlying9]
      have hl : (loadCells ⟨xb, xo, xs⟩ 0).run Yba.prog w = .ok (([] : List Int).map (Value.int .u8)).toArray w := by simpa using run_loadCells_list (P := Yba.prog) w ⟨xb, xo, xs⟩ [] (by simp)
      rw [run_bytesToString w _ 0 c [] hl]
      rfl
    · have := ha (by omega)
      simp only [Option.some.injEq] at this
      subst this
      refine run_convert_bytes_arg w 23 5 Yba.underlying23 Yba.underlying5 vb vo M c _ (by simp) (fun i hi => ?_) 9 Yba.underlying9
      rw [hc i hi]
      simp [List.getD, hi]

end Go.Proofs.Ybulkgaio
