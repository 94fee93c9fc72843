import Derived.WalkKit
import Derived.WalkSpells
import Derived.WalkLawsBesides
import Derived.Deep.OwnRows
import Derived.Deep.Slices
import Derived.Deep.QuietTactic
import Derived.BigQuiet
namespace Go.Zz
open Go.RowKit

theorem ret_int {k : IntKind} {a b : Int} (h : a = b) : Ending.returned (.int k a) = .returned (.int k b) := by rw [h]

/-! ### copy between two rows, elements of any number of cells -/

theorem run_copy_any (P : Program) (w : World) (dT sT ty elem : TypeId) (size g dCap : Nat) (ad : Addr) (n sCap : Nat) (cur : Array Value) (t : TypeId) (cs : List Value)
    (hu : P.underlying dT = some (.slice elem)) (hs : (P.info? elem).map (·.size) = some size)
    (hg : w.heap[g]? = some (.cells cur t (0, 0))) (hn : cs.length = n * size)
    (hsrc : ∀ j v, cs[j]? = some v → w.cell? (ad.add j) = some v) (hfit : cs.length = cur.size) (h1 : ∀ v ∈ cs, v.oneCell' = true) :
    (Builtin.copy_ #[dT, sT] ty #[.slice (some ⟨g, 0, none⟩) n dCap, .slice (some ad) n sCap]).run P w = .ok (goInt n) (w.setRow g cs.toArray) := by
  have hl := run_loadCells_list (P := P) w ad cs hsrc
  have hst := run_storeCells_at P g 0 t cs 0 cur w hg (by simp; omega) h1
  have e1 : cur.toList.take (0 + 0) ++ cs ++ cur.toList.drop (0 + 0 + cs.length) = cs := by
    rw [List.drop_eq_nil_of_le (by simp; omega)]; simp
  rw [e1] at hst
  cases hq : P.info? elem with
  | none => simp [hq] at hs
  | some i =>
    have hi : i.size = size := by simpa [hq] using hs
    simp [Builtin.copy_, run_underlying hu, Builtin.lenOf, Builtin.firstCells, sizeOf, typeInfo, hq, hi, ← hn, hl, hst]

theorem run_copy_zero (P : Program) (w : World) (dT sT ty elem : TypeId) (size : Nat) (d a : Option Addr) (dCap sCap : Nat) (hu : P.underlying dT = some (.slice elem)) (hs : (P.info? elem).map (·.size) = some size) :
    (Builtin.copy_ #[dT, sT] ty #[.slice d 0 dCap, .slice a 0 sCap]).run P w = .ok (goInt 0) w := by
  cases hq : P.info? elem with
  | none => simp [hq] at hs
  | some i =>
    have hl : ∀ (x : Addr), (loadCells x 0).run P w = .ok #[] w := fun x => by simpa using run_loadCells_list (P := P) w x [] (by simp)
    cases d <;> cases a <;> simp [Builtin.copy_, run_underlying hu, Builtin.lenOf, Builtin.firstCells, sizeOf, typeInfo, hq, storeCells, hl]

theorem grownBy_setRow (w : World) (g : Nat) (cs : Array Value) : w.grownBy (w.setRow g cs) (some g) :=
  ⟨rfl, rfl, rfl, by simp, fun k _ hk => setRow_other w g k _ (fun e => hk (by simp [e]))⟩

theorem grownBy_refl (w : World) (r : Option Nat) : w.grownBy w r := ⟨rfl, rfl, rfl, Nat.le_refl _, fun _ _ _ => rfl⟩

/-- the list of the first n values of a function -/
def vals (n : Nat) (f : Nat → Value) : List Value := (List.range n).map f
theorem vals_length (n : Nat) (f : Nat → Value) : (vals n f).length = n := by simp [vals]
theorem vals_get (n : Nat) (f : Nat → Value) (j : Nat) (hj : j < n) : (vals n f)[j]? = some (f j) := by simp [vals, hj]

/-- copy(dst, src): a whole row of the call's own, filled from a row of the same length: an equation to lay ahead of the walk -/
theorem run_copy_rows_sized (P : Program) (w : World) (dT sT ty elem : TypeId) (hu : P.underlying dT = some (.slice elem)) (size : Nat) (hsz : (P.info? elem).map (·.size) = some size)
    (g n dCap : Nat) (sp : Option Addr) (sCap : Nat) (t : TypeId) (f0 f : Nat → Value)
    (hg : w.rowIs g t (n * size) f0) (hsrc : 0 < n → ∃ ad, sp = some ad ∧ ∀ j, j < n * size → w.cell? (ad.add j) = some (f j)) (h1 : ∀ j, j < n * size → (f j).oneCell' = true) :
    ∃ w', (Builtin.copy_ #[dT, sT] ty #[.slice (some ⟨g, 0, none⟩) n dCap, .slice sp n sCap]).run P w = .ok (goInt n) w' ∧ w'.rowIs g t (n * size) f ∧ w.grownBy w' (some g) ∧ w'.heap.size = w.heap.size := by
  obtain ⟨c, hb, hc, hcell⟩ := hg
  by_cases h0 : n = 0
  · subst h0
    exact ⟨w, run_copy_zero P w dT sT ty elem size (some ⟨g, 0, none⟩) sp dCap sCap hu hsz, ⟨c, hb, hc, fun i hi => by simp at hi⟩, grownBy_refl _ _, rfl⟩
  · obtain ⟨ad, rfl, hsrc'⟩ := hsrc (by omega)
    have hl : (vals (n * size) f).length = n * size := vals_length _ _
    have hrun := run_copy_any P w dT sT ty elem size g dCap ad n sCap c t (vals (n * size) f) hu hsz hb hl
      (fun j v hv => by
        have hj : j < n * size := by
          rcases Nat.lt_or_ge j (n * size) with hj | hj
          · exact hj
          · rw [List.getElem?_eq_none (by rw [hl]; exact hj)] at hv; cases hv
        rw [vals_get _ _ _ hj] at hv
        cases hv
        exact hsrc' j hj) (by rw [hl, hc]) (fun v hv => by
        simp only [vals, List.mem_map, List.mem_range] at hv
        obtain ⟨j, hj, rfl⟩ := hv
        exact h1 j hj)
    exact ⟨_, hrun, ⟨(vals (n * size) f).toArray, setRow_heap w g c _ t _ hb, by simp [hl], fun i hi => by simpa using vals_get _ f _ hi⟩, grownBy_setRow _ _ _, by simp⟩

theorem run_copy_rows (P : Program) (w : World) (dT sT ty elem : TypeId) (hu : P.underlying dT = some (.slice elem)) (size : Nat) (hsz : (P.info? elem).map (·.size) = some size)
    (g n dCap : Nat) (sp : Option Addr) (sCap : Nat) (t : TypeId) (f0 f : Nat → Value)
    (hg : w.rowIs g t (n * size) f0) (hsrc : 0 < n → ∃ ad, sp = some ad ∧ ∀ j, j < n * size → w.cell? (ad.add j) = some (f j)) (h1 : ∀ j, j < n * size → (f j).oneCell' = true) :
    ∃ w', (Builtin.copy_ #[dT, sT] ty #[.slice (some ⟨g, 0, none⟩) n dCap, .slice sp n sCap]).run P w = .ok (goInt n) w' ∧ w'.rowIs g t (n * size) f ∧ w.grownBy w' (some g) := by
  obtain ⟨w', h1, h2, h3, _⟩ := run_copy_rows_sized P w dT sT ty elem hu size hsz g n dCap sp sCap t f0 f hg hsrc h1
  exact ⟨w', h1, h2, h3⟩

theorem add_zero_plain (b j : Nat) : (⟨b, 0, none⟩ : Addr).add j = ⟨b, j, none⟩ := by
  unfold Addr.add; split <;> simp_all

/-- the source is a row of the call's own too -/
theorem src_row {w : World} {b : Nat} {t : TypeId} {n size : Nat} {f : Nat → Value} (h : w.rowIs b t (n * size) f) : 0 < n → ∃ ad, some (⟨b, 0, none⟩ : Addr) = some ad ∧ ∀ j, j < n * size → w.cell? (ad.add j) = some (f j) :=
  fun _ => ⟨_, rfl, fun j hj => by rw [add_zero_plain]; exact h.cell hj⟩

/-! ### make, elements of any number of cells -/

theorem run_make_any (P : Program) (t e : TypeId) (z : Value) (zc : Array Value) (size bytes : Nat) (ht : P.underlying t = some (.slice e)) (hinfo : (P.info? e).map (fun i => (i.zero, i.size, i.bytes)) = some (some z, size, bytes)) (hz : z.cells = zc)
    (n : Nat) (hbytes : bytes * n ≤ 281474976710656) (h63 : n ≤ 9223372036854775807) (w : World) :
    (Instr.makeSlice t (.int .i64 (n : Int)) (.int .i64 (n : Int))).run P w = .ok (.slice (some ⟨w.heap.size, 0, none⟩) n n) (w.alloc (.cells (madeCells zc (n * size)) e)) := by
  obtain ⟨i, hi, hzz⟩ := Option.map_eq_some_iff.1 hinfo
  simp only [Prod.mk.injEq] at hzz
  obtain ⟨hz0, hs, hb⟩ := hzz
  have hb' : (i.bytes : Int) * (n : Int) ≤ 281474976710656 := by
    rw [hb]
    have h : ((bytes * n : Nat) : Int) ≤ 281474976710656 := by omega
    rwa [Int.natCast_mul] at h
  have hr := run_make (P := P) w t e i z ht hi hz0 .i64 .i64 n n (by omega) (Int.le_refl _) hb' (by omega)
  simp only [Int.toNat_natCast, hs, hz] at hr
  exact hr

theorem rowIs_madeN (w : World) (zc : Array Value) (m : Nat) (t : TypeId) : (w.alloc (.cells (madeCells zc m) t)).rowIs w.heap.size t m (fun j => zc[j % zc.size]!) :=
  ⟨_, Deep.blk_alloc_new _ _, size_madeCells _ _, fun i hi => by simp [madeCells, hi]⟩

/-- a row kept by a law that writes another row alone -/
theorem rowIs_grown {w w' : World} {b : Nat} {t : TypeId} {n : Nat} {f : Nat → Value} {row : Option Nat} (h : w.rowIs b t n f) (hg : w.grownBy w' row) (hne : some b ≠ row) : w'.rowIs b t n f :=
  h.of_block (hg.block b h.lt hne)

end Go.Zz
