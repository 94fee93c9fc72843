import Derived.Test.YbulkgbaiBase
import Derived.ProofKit
import Derived.OpenShut
import Derived.ShutString
import Derived.ChangeOld
import Derived.Below
import Derived.Deep.Slices
import Derived.SizedLaws
namespace Go.Zz
open Go.ChangeShapes Go.WideShapes Go.ChangeAt Go.RowKit Go.Deep

theorem add_plain' (b off j : Nat) : (⟨b, off, none⟩ : Addr).add j = ⟨b, off + j, none⟩ := by
  unfold Addr.add; split <;> simp_all

section
variable {H : Type} {enc : TypeId × Value → H} {P : Program} {w : World} {sp : Nat → Bool} {held : Bool}

/-- a slice that came in, of whatever elements: nil, or a row of memory whose first 'len' elements can be read -/
theorem open_rows {t e : TypeId} {ao : Option Addr} {len cap : Nat} {d : DataW H} {p : List MemPlace} (ht : P.underlying t = some (.slice e)) (hpos : 0 < P.cellsOf e)
    (h : DataW.Trod enc P w 0 sp held t (.slice ao len cap) d p) :
    len ≤ cap ∧ cap ≤ maxLen ∧ (ao = none → len = 0 ∧ cap = 0) ∧ ∃ b off, (0 < len → ao = some ⟨b, off, none⟩ ∧ b < w.heap.size) ∧
      ∀ i, i < len → ∃ cs n y, cs.length = P.cellsOf e ∧ (∀ j, j < P.cellsOf e → w.cell? ⟨b, off + i * P.cellsOf e + j, none⟩ = cs[j]?) ∧ DataW.trod enc P w 0 sp held n e cs = some y := by
  obtain ⟨fuel, hf⟩ := h
  rcases open_slice ht hf with ⟨hcs, _⟩ | ⟨a, len', cap', m, n, D, Pl, hcs, _, hl, hm, hmm, _, hx⟩
  · simp [Value.cells] at hcs
    obtain ⟨rfl, rfl, rfl⟩ := hcs
    exact ⟨Nat.le_refl _, Nat.zero_le _, fun _ => ⟨rfl, rfl⟩, 0, 0, fun h => absurd h (by omega), fun i hi => absurd hi (by omega)⟩
  · simp [Value.cells] at hcs
    obtain ⟨rfl, rfl, rfl⟩ := hcs
    have hlm : len ≤ m := by rw [hmm]; split <;> omega
    refine ⟨hl, hm, (fun h => by cases h), ?_⟩
    by_cases h0 : len = 0
    · subst h0
      exact ⟨0, 0, fun h => absurd h (by omega), fun i hi => absurd hi (by omega)⟩
    · obtain ⟨b, off, spot⟩ := a
      have hspot : spot = none := by
        obtain ⟨cs, hc, _⟩ := hx 0 (by omega)
        obtain ⟨_, hlen, hcell⟩ := World.cells?_some hc
        have h1 := hcell 0 hpos
        rw [List.getElem?_eq_getElem (by omega)] at h1
        simpa [Addr.add] using World.cell?_spot h1
      subst hspot
      refine ⟨b, off, fun _ => ⟨rfl, ?_⟩, fun i hi => ?_⟩
      · obtain ⟨cs, hc, _⟩ := hx 0 (by omega)
        obtain ⟨_, hlen, hcell⟩ := World.cells?_some hc
        have h1 := hcell 0 hpos
        rw [List.getElem?_eq_getElem (by omega)] at h1
        simpa [Addr.add] using World.block_lt_of_cell? _ _ h1
      · obtain ⟨cs, hc, ht'⟩ := hx i (by omega)
        obtain ⟨_, hlen, hcell⟩ := World.cells?_some hc
        refine ⟨cs, n, _, hlen, fun j hj => ?_, ht'⟩
        rw [← hcell j hj, add_plain', add_plain']

/-- how the datum of a slice tells its capacity: for the row's own bound on sizes -/
theorem slice_datum {t e : TypeId} {ao : Option Addr} {len cap : Nat} {d : DataW H} {p : List MemPlace} (ht : P.underlying t = some (.slice e))
    (h : DataW.Trod enc P w 0 (fun _ => true) held t (.slice ao len cap) d p) : (len = 0 ∧ cap = 0) ∨ ∃ el sp : List (DataW H), d = .slice el sp ∧ el.length + sp.length = cap ∧ len ≤ cap := by
  obtain ⟨fuel, hf⟩ := h
  rcases open_slice ht hf with ⟨hcs, _⟩ | ⟨a, len', cap', m, n, D, Pl, hcs, _, hl, hm, hmm, hx, _⟩
  · simp [Value.cells] at hcs
    exact .inl ⟨hcs.2.1, hcs.2.2⟩
  · simp [Value.cells] at hcs
    obtain ⟨rfl, rfl, rfl⟩ := hcs
    simp only [if_true] at hmm
    simp only [Prod.mk.injEq] at hx
    exact .inr ⟨_, _, hx.1, by simp; omega, hl⟩

/-- the row's own bound: a slice that came in takes fewer than 2^47 bytes -/
theorem slice_reach {ts : List TypeId} {ds : List (DataW H)} {j : Nat} {t e : TypeId} {ao : Option Addr} {len cap bytes : Nat} {d : DataW H} {p : List MemPlace} (hsz : (DataW.weightsEach P ts ds).all (· ≤ reachBytes) = true)
    (hts : ts[j]? = some t) (hds : ds[j]? = some d) (ht : P.underlying t = some (.slice e)) (hb : P.bytesOf e = bytes)
    (h : DataW.Trod enc P w 0 (fun _ => true) held t (.slice ao len cap) d p) : len * bytes ≤ 140737488351232 ∧ cap * bytes ≤ 140737488351232 := by
  rcases slice_datum ht h with ⟨rfl, rfl⟩ | ⟨el, sp, rfl, hl, hlc⟩
  · simp
  · have h1 := sized_slice hsz hts hds ht
    rw [hb, hl] at h1
    have h2 : cap * bytes ≤ 140737488351232 := h1
    exact ⟨Nat.le_trans (Nat.mul_le_mul_right _ hlc) h2, h2⟩

theorem open_ints_row {t e : TypeId} {k : IntKind} {ao : Option Addr} {len cap : Nat} {d : DataW H} {p : List MemPlace} (ht : P.underlying t = some (.slice e)) (he : P.underlying e = some (.int k)) (hc : P.cellsOf e = 1)
    (h : DataW.Trod enc P w 0 sp held t (.slice ao len cap) d p) :
    len ≤ cap ∧ cap ≤ maxLen ∧ (ao = none → len = 0 ∧ cap = 0) ∧ ∃ (b off : Nat) (T : Nat → Int), (0 < len → ao = some ⟨b, off, none⟩ ∧ b < w.heap.size) ∧
      (∀ i, i < len → w.cell? ⟨b, off + i, none⟩ = some (.int k (T i))) ∧ ∀ i, i < len → (Lit.int k (T i)).wf = true := by
  obtain ⟨h1, h2, h3, b, off, h4, h5⟩ := open_rows ht (by omega) h
  refine ⟨h1, h2, h3, b, off, ?_⟩
  obtain ⟨T, hT⟩ := choose_lt (α := Int) (n := len) (p := fun i x => w.cell? ⟨b, off + i, none⟩ = some (.int k x) ∧ (Lit.int k x).wf = true) (fun i hi => by
    obtain ⟨cs, n, y, hl, hcell, htr⟩ := h5 i hi
    obtain ⟨x, rfl, _, hw⟩ := DataW.trod_int he htr
    refine ⟨x, ?_, hw⟩
    have := hcell 0 (by omega)
    simpa [hc] using this)
  exact ⟨T, h4, fun i hi => (hT i hi).1, fun i hi => (hT i hi).2⟩

theorem open_bools_row {t e : TypeId} {ao : Option Addr} {len cap : Nat} {d : DataW H} {p : List MemPlace} (ht : P.underlying t = some (.slice e)) (he : P.underlying e = some .bool) (hc : P.cellsOf e = 1)
    (h : DataW.Trod enc P w 0 sp held t (.slice ao len cap) d p) :
    len ≤ cap ∧ cap ≤ maxLen ∧ (ao = none → len = 0 ∧ cap = 0) ∧ ∃ (b off : Nat) (T : Nat → Bool), (0 < len → ao = some ⟨b, off, none⟩ ∧ b < w.heap.size) ∧
      ∀ i, i < len → w.cell? ⟨b, off + i, none⟩ = some (.bool (T i)) := by
  obtain ⟨h1, h2, h3, b, off, h4, h5⟩ := open_rows ht (by omega) h
  refine ⟨h1, h2, h3, b, off, ?_⟩
  obtain ⟨T, hT⟩ := choose_lt (α := Bool) (n := len) (p := fun i x => w.cell? ⟨b, off + i, none⟩ = some (.bool x)) (fun i hi => by
    obtain ⟨cs, n, y, hl, hcell, htr⟩ := h5 i hi
    obtain ⟨x, rfl, _⟩ := DataW.trod_bool he htr
    refine ⟨x, ?_⟩
    have := hcell 0 (by omega)
    simpa [hc] using this)
  exact ⟨T, h4, hT⟩

/-- one field of one cell of each element of a slice of structs -/
theorem struct_field {e : TypeId} {fs : Array Field} {b off len size : Nat} (he : P.underlying e = some (.struct fs)) (hs : P.cellsOf e = size)
    (h : ∀ i, i < len → ∃ cs n y, cs.length = P.cellsOf e ∧ (∀ j, j < P.cellsOf e → w.cell? ⟨b, off + i * P.cellsOf e + j, none⟩ = cs[j]?) ∧ DataW.trod enc P w 0 sp held n e cs = some y)
    (q : Nat) (f : Field) (hf : fs[q]? = some f) (h1 : P.cellsOf f.type = 1) (ho : f.offset < size) :
    ∀ i, i < len → ∃ v n y, w.cell? ⟨b, off + i * size + f.offset, none⟩ = some v ∧ DataW.trod enc P w 0 sp held n f.type [v] = some y := by
  intro i hi
  obtain ⟨cs, n, y, hl, hcell, htr⟩ := h i hi
  obtain ⟨xs, n', _, _, _, hxl, hx⟩ := DataW.trod_struct he htr
  have hx' := hx q f hf
  rw [h1] at hx'
  have hq : q < xs.length := by rw [hxl]; exact (Array.getElem?_eq_some_iff.1 hf).1
  rw [List.getElem?_eq_getElem hq] at hx'
  have hd : (cs.drop f.offset).take 1 = [cs[f.offset]'(by omega)] := by
    have hlt : f.offset < cs.length := by omega
    rw [List.drop_eq_getElem_cons hlt]
    rfl
  rw [hd] at hx'
  refine ⟨_, n', _, ?_, hx'⟩
  subst hs
  rw [hcell f.offset ho, List.getElem?_eq_getElem (by omega)]

theorem field_int {e : TypeId} {fs : Array Field} {b off len size : Nat} (he : P.underlying e = some (.struct fs)) (hs : P.cellsOf e = size)
    (h : ∀ i, i < len → ∃ cs n y, cs.length = P.cellsOf e ∧ (∀ j, j < P.cellsOf e → w.cell? ⟨b, off + i * P.cellsOf e + j, none⟩ = cs[j]?) ∧ DataW.trod enc P w 0 sp held n e cs = some y)
    (q : Nat) (f : Field) (hf : fs[q]? = some f) (h1 : P.cellsOf f.type = 1) (ho : f.offset < size) {k : IntKind} (hk : P.underlying f.type = some (.int k)) :
    ∃ T : Nat → Int, (∀ i, i < len → w.cell? ⟨b, off + i * size + f.offset, none⟩ = some (.int k (T i))) ∧ ∀ i, i < len → (Lit.int k (T i)).wf = true := by
  obtain ⟨T, hT⟩ := choose_lt (α := Int) (n := len) (p := fun i x => w.cell? ⟨b, off + i * size + f.offset, none⟩ = some (.int k x) ∧ (Lit.int k x).wf = true) (fun i hi => by
    obtain ⟨v, n, y, hc, ht⟩ := struct_field he hs h q f hf h1 ho i hi
    obtain ⟨x, hv, _, hw⟩ := DataW.trod_int hk ht
    simp at hv
    subst hv
    exact ⟨x, hc, hw⟩)
  exact ⟨T, fun i hi => (hT i hi).1, fun i hi => (hT i hi).2⟩

theorem field_bool {e : TypeId} {fs : Array Field} {b off len size : Nat} (he : P.underlying e = some (.struct fs)) (hs : P.cellsOf e = size)
    (h : ∀ i, i < len → ∃ cs n y, cs.length = P.cellsOf e ∧ (∀ j, j < P.cellsOf e → w.cell? ⟨b, off + i * P.cellsOf e + j, none⟩ = cs[j]?) ∧ DataW.trod enc P w 0 sp held n e cs = some y)
    (q : Nat) (f : Field) (hf : fs[q]? = some f) (h1 : P.cellsOf f.type = 1) (ho : f.offset < size) (hk : P.underlying f.type = some .bool) :
    ∃ T : Nat → Bool, ∀ i, i < len → w.cell? ⟨b, off + i * size + f.offset, none⟩ = some (.bool (T i)) := by
  obtain ⟨T, hT⟩ := choose_lt (α := Bool) (n := len) (p := fun i x => w.cell? ⟨b, off + i * size + f.offset, none⟩ = some (.bool x)) (fun i hi => by
    obtain ⟨v, n, y, hc, ht⟩ := struct_field he hs h q f hf h1 ho i hi
    obtain ⟨x, hv, _⟩ := DataW.trod_bool hk ht
    simp at hv
    subst hv
    exact ⟨x, hc⟩)
  exact ⟨T, hT⟩

theorem field_string {e : TypeId} {fs : Array Field} {b off len size : Nat} (he : P.underlying e = some (.struct fs)) (hs : P.cellsOf e = size)
    (h : ∀ i, i < len → ∃ cs n y, cs.length = P.cellsOf e ∧ (∀ j, j < P.cellsOf e → w.cell? ⟨b, off + i * P.cellsOf e + j, none⟩ = cs[j]?) ∧ DataW.trod enc P w 0 sp held n e cs = some y)
    (q : Nat) (f : Field) (hf : fs[q]? = some f) (h1 : P.cellsOf f.type = 1) (ho : f.offset < size) (hk : P.underlying f.type = some .string) :
    ∃ T : Nat → ByteArray, (∀ i, i < len → w.cell? ⟨b, off + i * size + f.offset, none⟩ = some (.string (T i))) ∧ ∀ i, i < len → (T i).size ≤ maxLen := by
  obtain ⟨T, hT⟩ := choose_lt (α := ByteArray) (n := len) (p := fun i x => w.cell? ⟨b, off + i * size + f.offset, none⟩ = some (.string x) ∧ x.size ≤ maxLen) (fun i hi => by
    obtain ⟨v, n, y, hc, ht⟩ := struct_field he hs h q f hf h1 ho i hi
    obtain ⟨x, hv, _, hw⟩ := DataW.trod_string hk ht
    simp at hv
    subst hv
    exact ⟨x, hc, hw⟩)
  exact ⟨T, fun i hi => (hT i hi).1, fun i hi => (hT i hi).2⟩
end
end Go.Zz
