import Derived.WalkKit
import Derived.WalkSpells
import Derived.WalkLawsBesides
import Derived.Deep.OwnRows
import Derived.Maps.AppendAt
import Derived.Deep.Slices
import Derived.Deep.QuietTactic
import Derived.BigQuiet
namespace Go.Zz
open Go.RowKit

theorem hid {p : Prop} (h : p) : Hid p := h

theorem ret_int {k : IntKind} {a b : Int} (h : a = b) : Ending.returned (.int k a) = .returned (.int k b) := by rw [h]

/-! ### copy between two rows, elements of any number of cells -/

theorem run_copy_any (P : Program) (w : World) (dT sT ty elem : TypeId) (size g dCap : Nat) (ad : Addr) (n sCap : Nat) (cur : Array Value) (t : TypeId) (cs : List Value)
    (hu : P.underlying dT = some (.slice elem)) (hs : (P.info? elem).map (·.size) = some size)
    (hg : w.heap[g]? = some (.cells cur t (0, 0))) (hn : cs.length = n * size)
    (hsrc : ∀ j v, cs[j]? = some v → w.cell? (ad.add j) = some v) (hfit : cs.length = cur.size) (h1 : ∀ v ∈ cs, v.oneCell' = true) :
    (Builtin.copy_ #[dT, sT] ty #[.slice (some ⟨g, 0, none⟩) n dCap, .slice (some ad) n sCap]).run P w = .ok (goInt n) (w.setRow g cs.toArray) := by
  have hl := run_loadCells_list (P := P) w ad cs hsrc
  have hst := run_storeCells_at P g 0 t cs 0 cur w hg (by simp; omega) h1
  have e1 : cur.toList.take (0 + 0) ++ cs ++ cur.toList.drop (0 + 0 + cs.length) = cs := by
    rw [List.drop_eq_nil_of_le (by simp; omega)]; simp
  rw [e1] at hst
  cases hq : P.info? elem with
  | none => simp [hq] at hs
  | some i =>
    have hi : i.size = size := by simpa [hq] using hs
    simp [Builtin.copy_, run_underlying hu, Builtin.lenOf, Builtin.firstCells, sizeOf, typeInfo, hq, hi, ← hn, hl, hst]

theorem run_copy_zero (P : Program) (w : World) (dT sT ty elem : TypeId) (size : Nat) (d a : Option Addr) (dCap sCap : Nat) (hu : P.underlying dT = some (.slice elem)) (hs : (P.info? elem).map (·.size) = some size) :
    (Builtin.copy_ #[dT, sT] ty #[.slice d 0 dCap, .slice a 0 sCap]).run P w = .ok (goInt 0) w := by
  cases hq : P.info? elem with
  | none => simp [hq] at hs
  | some i =>
    have hl : ∀ (x : Addr), (loadCells x 0).run P w = .ok #[] w := fun x => by simpa using run_loadCells_list (P := P) w x [] (by simp)
    cases d <;> cases a <;> simp [Builtin.copy_, run_underlying hu, Builtin.lenOf, Builtin.firstCells, sizeOf, typeInfo, hq, storeCells, hl]

theorem grownBy_setRow (w : World) (g : Nat) (cs : Array Value) : w.grownBy (w.setRow g cs) (some g) :=
  ⟨rfl, rfl, rfl, by simp, fun k _ hk => setRow_other w g k _ (fun e => hk (by simp [e]))⟩

theorem grownBy_refl (w : World) (r : Option Nat) : w.grownBy w r := ⟨rfl, rfl, rfl, Nat.le_refl _, fun _ _ _ => rfl⟩

/-- the list of the first n values of a function -/
def vals (n : Nat) (f : Nat → Value) : List Value := (List.range n).map f
theorem vals_length (n : Nat) (f : Nat → Value) : (vals n f).length = n := by simp [vals]
theorem vals_get (n : Nat) (f : Nat → Value) (j : Nat) (hj : j < n) : (vals n f)[j]? = some (f j) := by simp [vals, hj]

/-- copy(dst, src): a whole row of the call's own, filled from a row of the same length: an equation to lay ahead of the walk -/
theorem run_copy_rows_sized (P : Program) (w : World) (dT sT ty elem : TypeId) (hu : P.underlying dT = some (.slice elem)) (size : Nat) (hsz : (P.info? elem).map (·.size) = some size)
    (g n dCap : Nat) (sp : Option Addr) (sCap : Nat) (t : TypeId) (f0 f : Nat → Value)
    (hg : w.rowIs g t (n * size) f0) (hsrc : 0 < n → ∃ ad, sp = some ad ∧ ∀ j, j < n * size → w.cell? (ad.add j) = some (f j)) (h1 : ∀ j, j < n * size → (f j).oneCell' = true) :
    ∃ w', (Builtin.copy_ #[dT, sT] ty #[.slice (some ⟨g, 0, none⟩) n dCap, .slice sp n sCap]).run P w = .ok (goInt n) w' ∧ w'.rowIs g t (n * size) f ∧ w.grownBy w' (some g) ∧ w'.heap.size = w.heap.size := by
  obtain ⟨c, hb, hc, hcell⟩ := hg
  by_cases h0 : n = 0
  · subst h0
    exact ⟨w, run_copy_zero P w dT sT ty elem size (some ⟨g, 0, none⟩) sp dCap sCap hu hsz, ⟨c, hb, hc, fun i hi => by simp at hi⟩, grownBy_refl _ _, rfl⟩
  · obtain ⟨ad, rfl, hsrc'⟩ := hsrc (by omega)
    have hl : (vals (n * size) f).length = n * size := vals_length _ _
    have hrun := run_copy_any P w dT sT ty elem size g dCap ad n sCap c t (vals (n * size) f) hu hsz hb hl
      (fun j v hv => by
        have hj : j < n * size := by
          rcases Nat.lt_or_ge j (n * size) with hj | hj
          · exact hj
          · rw [List.getElem?_eq_none (by rw [hl]; exact hj)] at hv; cases hv
        rw [vals_get _ _ _ hj] at hv
        cases hv
        exact hsrc' j hj) (by rw [hl, hc]) (fun v hv => by
        simp only [vals, List.mem_map, List.mem_range] at hv
        obtain ⟨j, hj, rfl⟩ := hv
        exact h1 j hj)
    exact ⟨_, hrun, ⟨(vals (n * size) f).toArray, setRow_heap w g c _ t _ hb, by simp [hl], fun i hi => by simpa using vals_get _ f _ hi⟩, grownBy_setRow _ _ _, by simp⟩

theorem run_copy_rows (P : Program) (w : World) (dT sT ty elem : TypeId) (hu : P.underlying dT = some (.slice elem)) (size : Nat) (hsz : (P.info? elem).map (·.size) = some size)
    (g n dCap : Nat) (sp : Option Addr) (sCap : Nat) (t : TypeId) (f0 f : Nat → Value)
    (hg : w.rowIs g t (n * size) f0) (hsrc : 0 < n → ∃ ad, sp = some ad ∧ ∀ j, j < n * size → w.cell? (ad.add j) = some (f j)) (h1 : ∀ j, j < n * size → (f j).oneCell' = true) :
    ∃ w', (Builtin.copy_ #[dT, sT] ty #[.slice (some ⟨g, 0, none⟩) n dCap, .slice sp n sCap]).run P w = .ok (goInt n) w' ∧ w'.rowIs g t (n * size) f ∧ w.grownBy w' (some g) := by
  obtain ⟨w', h1, h2, h3, _⟩ := run_copy_rows_sized P w dT sT ty elem hu size hsz g n dCap sp sCap t f0 f hg hsrc h1
  exact ⟨w', h1, h2, h3⟩

theorem add_off (b off j : Nat) : (⟨b, off, none⟩ : Addr).add j = ⟨b, off + j, none⟩ := by
  unfold Addr.add; split <;> simp_all

theorem add_zero_plain (b j : Nat) : (⟨b, 0, none⟩ : Addr).add j = ⟨b, j, none⟩ := by
  unfold Addr.add; split <;> simp_all

/-- the source is a row of the call's own too -/
theorem src_row {w : World} {b : Nat} {t : TypeId} {n size : Nat} {f : Nat → Value} (h : w.rowIs b t (n * size) f) : 0 < n → ∃ ad, some (⟨b, 0, none⟩ : Addr) = some ad ∧ ∀ j, j < n * size → w.cell? (ad.add j) = some (f j) :=
  fun _ => ⟨_, rfl, fun j hj => by rw [add_zero_plain]; exact h.cell hj⟩

/-! ### make, elements of any number of cells -/

theorem run_make_any (P : Program) (t e : TypeId) (z : Value) (zc : Array Value) (size bytes : Nat) (ht : P.underlying t = some (.slice e)) (hinfo : (P.info? e).map (fun i => (i.zero, i.size, i.bytes)) = some (some z, size, bytes)) (hz : z.cells = zc)
    (n : Nat) (hbytes : bytes * n ≤ 281474976710656) (h63 : n ≤ 9223372036854775807) (w : World) :
    (Instr.makeSlice t (.int .i64 (n : Int)) (.int .i64 (n : Int))).run P w = .ok (.slice (some ⟨w.heap.size, 0, none⟩) n n) (w.alloc (.cells (madeCells zc (n * size)) e)) := by
  obtain ⟨i, hi, hzz⟩ := Option.map_eq_some_iff.1 hinfo
  simp only [Prod.mk.injEq] at hzz
  obtain ⟨hz0, hs, hb⟩ := hzz
  have hb' : (i.bytes : Int) * (n : Int) ≤ 281474976710656 := by
    rw [hb]
    have h : ((bytes * n : Nat) : Int) ≤ 281474976710656 := by omega
    rwa [Int.natCast_mul] at h
  have hr := run_make (P := P) w t e i z ht hi hz0 .i64 .i64 n n (by omega) (Int.le_refl _) hb' (by omega)
  simp only [Int.toNat_natCast, hs, hz] at hr
  exact hr

theorem rowIs_madeN (w : World) (zc : Array Value) (m : Nat) (t : TypeId) : (w.alloc (.cells (madeCells zc m) t)).rowIs w.heap.size t m (fun j => zc[j % zc.size]!) :=
  ⟨_, Deep.blk_alloc_new _ _, size_madeCells _ _, fun i hi => by simp [madeCells, hi]⟩

/-- a row kept by a law that writes another row alone -/
theorem rowIs_grown {w w' : World} {b : Nat} {t : TypeId} {n : Nat} {f : Nat → Value} {row : Option Nat} (h : w.rowIs b t n f) (hg : w.grownBy w' row) (hne : some b ≠ row) : w'.rowIs b t n f :=
  h.of_block (hg.block b h.lt hne)

/-! ### a slice that the call itself builds by append: its first n elements ('size' cells each) hold 'f' -/

/-- v is nil and n = 0, or v begins a row of the call's own (a block from B on) whose first cells are f 0, f 1, .. -/
def Vec (w : World) (B : Nat) (e : TypeId) (size : Nat) (v : Value) (n : Nat) (f : Nat → Value) : Prop := w.ownsRow B e size v n (vals (n * size) f)

theorem vals_append (a b : Nat) (f g h : Nat → Value) (h1 : ∀ j, j < a → h j = f j) (h2 : ∀ j, j < b → h (a + j) = g j) : vals a f ++ vals b g = vals (a + b) h := by
  apply List.ext_getElem?
  intro j
  by_cases hj : j < a
  · rw [List.getElem?_append_left (by rw [vals_length]; exact hj), vals_get _ _ _ hj, vals_get _ _ _ (by omega), h1 j hj]
  · by_cases hj2 : j < a + b
    · rw [List.getElem?_append_right (by rw [vals_length]; omega), vals_length, vals_get _ _ _ (by omega), vals_get _ _ _ hj2]
      have := h2 (j - a) (by omega)
      rw [show a + (j - a) = j by omega] at this
      rw [this]
    · rw [List.getElem?_eq_none (by simp [vals_length]; omega), List.getElem?_eq_none (by simp [vals_length]; omega)]

theorem vals_congr (n : Nat) (f g : Nat → Value) (h : ∀ j, j < n → f j = g j) : vals n f = vals n g := by
  unfold vals
  exact List.map_congr_left fun j hj => h j (List.mem_range.1 hj)

namespace Vec
variable {w : World} {B : Nat} {e : TypeId} {size : Nat} {v : Value} {n : Nat} {f g : Nat → Value}

theorem nil (w : World) (B : Nat) (e : TypeId) (size : Nat) (f : Nat → Value) : Vec w B e size (.slice none 0 0) 0 f := by
  unfold Vec
  rw [Nat.zero_mul]
  exact World.ownsRow_nil w B e size

theorem congr (h : Vec w B e size v n f) (hf : ∀ j, j < n * size → f j = g j) : Vec w B e size v n g := by
  unfold Vec at *
  rwa [← vals_congr _ _ _ hf]

theorem shape (h : Vec w B e size v n f) : (v = .slice none 0 0 ∧ n = 0) ∨ ∃ b cap, v = .slice (some ⟨b, 0, none⟩) n cap ∧ B ≤ b ∧ b < w.heap.size ∧ n ≤ cap ∧ cap ≤ maxLen := by
  rcases h.2 with ⟨h1, h2⟩ | ⟨b, cap, cur, h1, h2, h3, h4, h5, _⟩
  · exact .inl ⟨h1, h2⟩
  · refine .inr ⟨b, cap, h1, h2, ?_, h4, h5⟩
    rcases Nat.lt_or_ge b w.heap.size with hl | hl
    · exact hl
    · rw [Array.getElem?_eq_none hl] at h3; cases h3

theorem cell {b cap : Nat} (h : Vec w B e size (.slice (some ⟨b, 0, none⟩) n cap) n f) {j : Nat} (hj : j < n * size) : w.cell? ⟨b, j, none⟩ = some (f j) := by
  rw [World.ownsRow.cellAt h j hj, vals_get _ _ _ hj]

theorem frozen {b cap : Nat} (h : Vec w B e size (.slice (some ⟨b, 0, none⟩) n cap) n f) (j : Nat) : w.frozen? ⟨b, j, none⟩ = false := World.ownsRow.frozenAt h j

theorem alloc (h : Vec w B e size v n f) (o : Obj) : Vec (w.alloc o) B e size v n f := World.ownsRow.alloc h o

theorem kept {w' : World} {row : Option Nat} (h : Vec w B e size v n f) (hg : w.grownBy w' row) (hne : v.ownBlock = none ∨ v.ownBlock ≠ row) : Vec w' B e size v n f := World.ownsRow.kept h hg hne

theorem of_block {w' : World} {b cap : Nat} (h : Vec w B e size (.slice (some ⟨b, 0, none⟩) n cap) n f) (he : w'.heap[b]? = w.heap[b]?) : Vec w' B e size (.slice (some ⟨b, 0, none⟩) n cap) n f := by
  rcases h.2 with ⟨h1, _⟩ | ⟨b', cap', cur, h1, h2, h3, h4⟩
  · simp at h1
  · simp only [Value.slice.injEq, Option.some.injEq, Addr.mk.injEq, and_true, true_and] at h1
    obtain ⟨rfl, rfl⟩ := h1
    exact ⟨h.1, .inr ⟨b, cap, cur, rfl, h2, he.trans h3, h4⟩⟩

theorem drew (h : Vec w B e size v n f) : Vec w.drew B e size v n f := h

theorem lt {b cap : Nat} (h : Vec w B e size (.slice (some ⟨b, 0, none⟩) n cap) n f) : b < w.heap.size := (World.ownsRow.lt h b rfl).2

theorem set {b cap : Nat} (h : Vec w B e size (.slice (some ⟨b, 0, none⟩) n cap) n f) (i : Nat) (u : Value) : Vec (w.setCell ⟨b, i, none⟩ u) B e size (.slice (some ⟨b, 0, none⟩) n cap) n (fun j => if j = i then u else f j) := by
  have h1 := (World.ownsRow.stored h i u).1
  unfold Vec
  have e1 : (vals (n * size) f).set i u = vals (n * size) (fun j => if j = i then u else f j) := by
    apply List.ext_getElem?
    intro j
    rw [List.getElem?_set]
    by_cases hj : j < n * size
    · rw [vals_get _ (fun j => if j = i then u else f j) _ hj]
      by_cases e : i = j
      · subst e; simp [vals_length, hj]
      · rw [if_neg e, vals_get _ _ _ hj, if_neg (fun h => e h.symm)]
    · rw [List.getElem?_eq_none (l := vals (n * size) (fun j => if j = i then u else f j)) (by rw [vals_length]; omega)]
      by_cases e : i = j
      · subst e; simp [vals_length, hj]
      · rw [if_neg e, List.getElem?_eq_none (by rw [vals_length]; omega)]
  rwa [e1] at h1

theorem setOther {b cap : Nat} (h : Vec w B e size (.slice (some ⟨b, 0, none⟩) n cap) n f) {a : Addr} (ha : b ≠ a.block) (u : Value) : Vec (w.setCell a u) B e size (.slice (some ⟨b, 0, none⟩) n cap) n f :=
  h.of_block (Deep.blk_setCell_other _ _ _ _ ha)
end Vec

/-- a row that the call has made, as a slice over all of it -/
theorem Vec.of_row {w : World} {B b : Nat} {e : TypeId} {size n : Nat} {f : Nat → Value} (h : w.rowIs b e (n * size) f) (hB : B ≤ b) (hn : n ≤ maxLen) : Vec w B e size (.slice (some ⟨b, 0, none⟩) n n) n f := by
  obtain ⟨c, hb, hc, hcell⟩ := h
  refine ⟨vals_length _ _, .inr ⟨b, n, c, rfl, hB, hb, Nat.le_refl _, hn, hc, ?_⟩⟩
  apply List.ext_getElem?
  intro j
  by_cases hj : j < n * size
  · rw [List.getElem?_take, if_pos hj, vals_get _ _ _ hj]
    simpa using hcell j hj
  · rw [List.getElem?_eq_none (l := vals (n * size) f) (by rw [vals_length]; omega), List.getElem?_eq_none (by simp; omega)]

/-- append(v, ..m elements that lie at a..), v the call's own: an equation to lay ahead of the walk. The new value is written out. -/
theorem run_append_vec (P : Program) (w : World) (B : Nat) (t ty e : TypeId) (z : Value) (size bytes : Nat) (ht : P.underlying t = some (.slice e)) (hinfo : (P.info? e).map (fun i => (i.zero, i.size, i.bytes)) = some (some z, size, bytes))
    (hzs : z.cells.size = size) (hsz : 0 < size) (v : Value) (n : Nat) (f : Nat → Value) (hown : Vec w B e size v n f)
    (a : Addr) (m c : Nat) (hm : 0 < m) (nw f' : Nat → Value) (hnw : ∀ j, j < m * size → w.cell? (a.add j) = some (nw j)) (h1 : ∀ j, j < m * size → (nw j).oneCell' = true)
    (hf1 : ∀ j, j < n * size → f' j = f j) (hf2 : ∀ j, j < m * size → f' (n * size + j) = nw j)
    (h63 : n + m ≤ maxLen) (hbytes : (n + m) * bytes ≤ 140737488355328) (hbase : B ≤ w.heap.size) :
    ∃ (b cap : Nat) (w' : World), (Builtin.append_ #[t, t] ty #[v, .slice (some a) m c]).run P w = .ok (.slice (some ⟨b, 0, none⟩) (n + m) cap) w' ∧
      Vec w' B e size (.slice (some ⟨b, 0, none⟩) (n + m) cap) (n + m) f' ∧ w.grownBy w' v.ownBlock ∧ (v.ownBlock = some b ∨ b = w.heap.size) ∧ B ≤ b := by
  obtain ⟨i, hi, hzz⟩ := Option.map_eq_some_iff.1 hinfo
  simp only [Prod.mk.injEq] at hzz
  obtain ⟨hz0, hs, hb⟩ := hzz
  obtain ⟨v', w', hrun, hown', hgr, hnil, hat⟩ := run_append_own_at (P := P) w B t ty e i z size bytes ht hi hz0 hs hb hzs hsz v n (vals (n * size) f) hown a m c (vals (m * size) nw) (vals_length _ _)
    (fun j u hu => by
      have hj : j < m * size := by
        rcases Nat.lt_or_ge j (m * size) with hj | hj
        · exact hj
        · rw [List.getElem?_eq_none (by rw [vals_length]; exact hj)] at hu; cases hu
      rw [vals_get _ _ _ hj] at hu
      cases hu
      exact hnw j hj)
    (fun u hu => by
      simp only [vals, List.mem_map, List.mem_range] at hu
      obtain ⟨j, hj, rfl⟩ := hu
      exact h1 j hj) h63 hbytes hbase
  rw [vals_append (n * size) (m * size) f nw f' hf1 hf2, ← Nat.add_mul] at hown'
  have hV : Vec w' B e size v' (n + m) f' := hown'
  rcases hV.shape with ⟨h0, h0'⟩ | ⟨b, cap, rfl, hBb, _, _, _⟩
  · omega
  · exact ⟨b, cap, w', hrun, hV, hgr, hat.elim (fun h => .inl (by rw [← h]; rfl)) (fun h => .inr (by simpa [Value.ownBlock] using h)), hBb⟩

/-! ### what a call leaves alone: all old blocks but those of a list -/

structure Kept (S : List Nat) (w w' : World) : Prop where
  os : w'.os = w.os
  tape : w'.tape = w.tape
  output : w'.output = w.output
  size : w.heap.size ≤ w'.heap.size
  block : ∀ k, k < w.heap.size → k ∉ S → w'.heap[k]? = w.heap[k]?

namespace Kept
variable {S : List Nat} {w w' w'' : World}

theorem refl (S : List Nat) (w : World) : Kept S w w := ⟨rfl, rfl, rfl, Nat.le_refl _, fun _ _ _ => rfl⟩

theorem trans (h : Kept S w w') (k : Kept S w' w'') : Kept S w w'' :=
  ⟨k.os.trans h.os, k.tape.trans h.tape, k.output.trans h.output, Nat.le_trans h.size k.size, fun i hi hS => (k.block i (Nat.lt_of_lt_of_le hi h.size) hS).trans (h.block i hi hS)⟩

/-- a second step may write blocks that are new since the first world -/
theorem step {T : List Nat} (h : Kept S w w') (k : Kept T w' w'') (hT : ∀ b ∈ T, b ∈ S ∨ w.heap.size ≤ b) : Kept S w w'' :=
  ⟨k.os.trans h.os, k.tape.trans h.tape, k.output.trans h.output, Nat.le_trans h.size k.size, fun i hi hS => (k.block i (Nat.lt_of_lt_of_le hi h.size) (fun hm => by
    rcases hT i hm with h' | h'
    · exact hS h'
    · omega)).trans (h.block i hi hS)⟩

theorem mono {T : List Nat} (h : Kept S w w') (hT : ∀ b ∈ S, b ∈ T) : Kept T w w' := ⟨h.os, h.tape, h.output, h.size, fun i hi hS => h.block i hi (fun hm => hS (hT i hm))⟩

theorem drew (h : Kept S w w') : Kept S w w'.drew := ⟨h.os, h.tape, h.output, h.size, h.block⟩

theorem drewN (h : Kept S w w') (n : Nat) : Kept S w (w'.drewN n) := ⟨h.os, h.tape, h.output, h.size, h.block⟩

theorem alloc (h : Kept S w w') (o : Obj) : Kept S w (w'.alloc o) :=
  h.trans ⟨rfl, rfl, rfl, by rw [Deep.nblk_alloc]; omega, fun k hk _ => Deep.blk_alloc_lt _ _ _ hk⟩

theorem setCell (h : Kept S w w') {a : Addr} (ha : a.block ∈ S ∨ w.heap.size ≤ a.block) (v : Value) : Kept S w (w'.setCell a v) :=
  ⟨h.os, h.tape, h.output, by rw [Deep.nblk_setCell]; exact h.size, fun k hk hS => (Deep.blk_setCell_other _ _ _ _ (fun e => by
    rcases ha with h' | h'
    · exact hS (e ▸ h')
    · omega)).trans (h.block k hk hS)⟩

theorem grown {row : Option Nat} (h : Kept S w w') (hg : w'.grownBy w'' row) (hr : ∀ k, row = some k → k ∈ S ∨ w.heap.size ≤ k) : Kept S w w'' :=
  ⟨hg.os.trans h.os, hg.tape.trans h.tape, hg.output.trans h.output, Nat.le_trans h.size hg.size, fun k hk hS => (hg.block k (Nat.lt_of_lt_of_le hk h.size) (fun e => by
    rcases hr k e.symm with h' | h'
    · exact hS h'
    · omega)).trans (h.block k hk hS)⟩

theorem of_grown {row : Option Nat} (hg : w.grownBy w' row) : Kept row.toList w w' := (refl _ w).grown hg (fun k hk => .inl (by simp [hk]))

theorem of_below (h : Below w.heap.size w w') : Kept S w w' := ⟨h.os, h.tape, h.output, h.size, fun k hk _ => h.block k hk⟩

theorem below {B : Nat} (h : Kept S w w') (hB : B ≤ w.heap.size) (hS : ∀ b ∈ S, B ≤ b) : Below B w w' :=
  ⟨h.os, h.tape, h.output, h.size, fun k hk => h.block k (by omega) (fun hm => by have := hS k hm; omega)⟩

theorem row {b : Nat} {t : TypeId} {n : Nat} {f : Nat → Value} (h : Kept S w w') (hr : w.rowIs b t n f) (hb : b ∉ S) : w'.rowIs b t n f := hr.of_block (h.block b hr.lt hb)

theorem cell (h : Kept S w w') {a : Addr} (ha : a.block < w.heap.size) (hb : a.block ∉ S) : w'.cell? a = w.cell? a := World.cell?_of_block (w := w) (h.block _ ha hb)

theorem vec {B : Nat} {e : TypeId} {size : Nat} {v : Value} {n : Nat} {f : Nat → Value} (h : Kept S w w') (hv : Vec w B e size v n f) (hb : ∀ b, v.ownBlock = some b → b ∉ S) : Vec w' B e size v n f := by
  rcases hv.shape with ⟨rfl, rfl⟩ | ⟨b, cap, rfl, _, hlt, _⟩
  · exact Vec.nil _ _ _ _ _
  · exact hv.of_block (h.block b hlt (hb b rfl))
end Kept

theorem kept_below {B : Nat} {S : List Nat} {w w' w'' : World} (h : Below B w w') (k : Kept S w' w'') (hB : B ≤ w'.heap.size) (hS : ∀ b ∈ S, B ≤ b) : Below B w w'' := h.trans (k.below hB hS)

/-- append by an equation that is at hand: for 'go_wp2_with (at_builtin; refine wpList_append_run rfl (.tmp A) (.tmp B) T T rfl rfl rfl rfl H.out ?_)' -/
theorem wpList_append_run {P : Program} {w : World} {ops : Array Oper} {rest : List Oper} {o : Oper} {a : Act} {Q : Exit → Act → World → Prop} (hgd : o.guard = none) (s x : Operand) (t ty : TypeId)
    (ho : o.op = .call { callee := .builtin .append, args := #[s, x], argTypes := #[t, t] }) (hty : o.type = ty) {v src v' : Value} {w' : World} (hs : a.eval s = v) (hx : a.eval x = src)
    (hrun : (Builtin.append_ #[t, t] ty #[v, src]).run P w = .ok v' w') (h : wpList P ops Q rest (a.put o.dst v') w') : wpList P ops Q (o :: rest) a w := by
  refine wpList_plain hgd fun K hK => ?_
  subst hty
  unfold Oper.wp execOp
  simp only [ho, resolve, invoke, builtin, Sem.run_bind, Sem.run_pure, Result.andThen_ok, List.map_toArray, List.map_cons, List.map_nil, hs, hx, hrun]
  exact hK _ _ h

end Go.Zz
