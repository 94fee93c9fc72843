import Derived.Test.YbulkgbaiDoorLink
import Derived.Maps.OwnSet
import Derived.DeepKeys4
namespace Go.Proofs.YbulkgbaiDoor
open Go.RowKit Go.Zz Go.Maps

theorem laidOut : laidOutB Ybad.prog = true := by kernel_rfl

/-- a message's key, as the map holds it -/
def kv (o s : Nat) : Value := .agg #[.int .u64 (o : Int), .int .u64 (s : Int)]

theorem klaw : WideMaps.KeyLaw Ybad.prog 70 := deep_law_laid laidOut (m := 3) (by decide) (of_decide_eq_true (by kernel_rfl)) (by kernel_rfl) (by kernel_rfl)
theorem rlaw : Keyed Ybad.prog 70 := Keyed.of_law klaw
theorem ilaw : Keyed Ybad.prog 25 := int_keyed Ybad.underlying25
theorem cells70 : Ybad.prog.cellsOf 70 = 2 := by kernel_rfl
theorem cells33 : Ybad.prog.cellsOf 33 = 1 := by kernel_rfl
theorem keyType70 : Ybad.prog.keyType 70 = true := by kernel_rfl

theorem u64_wf (n : Nat) (h : n < 18446744073709551616) : (Lit.int .u64 (n : Int)).wf = true := by
  simp only [Lit.wf, Bool.and_eq_true, decide_eq_true_eq]
  exact ⟨show (0 : Int) ≤ n by omega, show (n : Int) ≤ 18446744073709551615 by omega⟩

theorem lits33 (d n : Nat) (h : n < 18446744073709551616) : Ybad.prog.keyLits (d + 1) 33 [.int .u64 (n : Int)] = some [.int .u64 (n : Int)] := by
  unfold Program.keyLits
  simp [Ybad.underlying33, u64_wf n h]

theorem lits70 (d o s : Nat) (ho : o < 18446744073709551616) (hs : s < 18446744073709551616) : Ybad.prog.keyLits (d + 2) 70 [.int .u64 (o : Int), .int .u64 (s : Int)] = some [.int .u64 (o : Int), .int .u64 (s : Int)] := by
  rw [show d + 2 = (d + 1) + 1 from rfl]
  unfold Program.keyLits
  simp [Ybad.underlying70, cells70, cells33, lits33 d o ho, lits33 d s hs]

theorem kv_key (o s : Nat) (ho : o < 18446744073709551616) (hs : s < 18446744073709551616) : ∃ kl, keyOf Ybad.prog 70 (kv o s) = some kl := by
  have h1 : (kv o s).formed Ybad.prog 70 = true := by simp [kv, Value.formed, Ybad.underlying70, cells70]
  have h2 : Ybad.prog.keyLits (Ybad.prog.types.size + 1) 70 (kv o s).cells.toList = some [.int .u64 (o : Int), .int .u64 (s : Int)] := by
    obtain ⟨d, hd⟩ : ∃ d, Ybad.prog.types.size + 1 = d + 2 := ⟨120, by kernel_rfl⟩
    rw [hd]
    exact lits70 d o s ho hs
  refine ⟨.string (keyBytes [.int .u64 (o : Int), .int .u64 (s : Int)]), ?_⟩
  unfold keyOf
  rw [Ybad.underlying70]
  show (if (Ybad.prog.keyType 70 && (kv o s).formed Ybad.prog 70) = true then (Ybad.prog.keyLits (Ybad.prog.types.size + 1) 70 (kv o s).cells.toList).map fun ls => Lit.string (keyBytes ls) else none) = _
  rw [keyType70, h1, h2]
  rfl

theorem kv_inj {o s s' : Nat} {kl : Lit} (h : keyOf Ybad.prog 70 (kv o s) = some kl) (h' : keyOf Ybad.prog 70 (kv o s') = some kl) : s = s' := by
  have := klaw.inj h h'
  simp [kv] at this
  omega

theorem zero3 (w : World) : (zeroValue 3).run Ybad.prog w = .ok (.int .i64 0) w := by kernel_rfl

theorem i64_wf (n : Nat) (h : n < 9223372036854775808) : (Lit.int .i64 (n : Int)).wf = true := by
  simp only [Lit.wf, Bool.and_eq_true, decide_eq_true_eq]
  exact ⟨show (-9223372036854775808 : Int) ≤ n by omega, show (n : Int) ≤ 9223372036854775807 by omega⟩

/-- the map of the rows: j keys at the most, all of them (o, s) with s ≤ j -/
def RM (w : World) (b o j : Nat) : Prop := ∃ n D, w.ownsMap (H := Unit) Ybad.prog 70 (plainElem Ybad.prog 3) b n D ∧ n ≤ j ∧ ∀ kl, Maps.has D kl = true → ∃ s, s ≤ j ∧ keyOf Ybad.prog 70 (kv o s) = some kl

theorem RM.lt {w : World} {b o j : Nat} (h : RM w b o j) : b < w.heap.size := by
  obtain ⟨n, D, h1, _⟩ := h
  exact h1.lt

theorem RM.of_block {w w' : World} {b o j : Nat} (h : RM w b o j) (he : w'.heap[b]? = w.heap[b]?) : RM w' b o j := by
  obtain ⟨n, D, ⟨es, clock, hb, h1⟩, h2⟩ := h
  exact ⟨n, D, ⟨es, clock, he.trans hb, h1⟩, h2⟩

theorem RM.made (w : World) (o : Nat) : RM (w.alloc (.map #[] 0)) w.heap.size o 0 :=
  ⟨0, _, World.ownsMap_made _ _ _ _, Nat.le_refl _, fun kl h => by simp [Maps.has] at h⟩

theorem RM.look {w : World} {b o j s : Nat} (h : RM w b o j) (hs : j < s) (ho : o < 18446744073709551616) (hs2 : s < 18446744073709551616) :
    (Instr.lookup 48 (.map (some b)) (kv o s) true).run Ybad.prog w = .ok (.tuple #[.int .i64 0, .bool false]) w := by
  obtain ⟨n, D, h1, h2, h3⟩ := h
  obtain ⟨kl, hkl⟩ := kv_key o s ho hs2
  obtain ⟨v, ps, hrun, hv⟩ := h1.look_ok rlaw Ybad.underlying48 (zero3 w) (plainElem_int Ybad.underlying3 (i64_wf 0 (by omega))) hkl
  have hno : Maps.has D kl = false := by
    cases hh : Maps.has D kl with
    | false => rfl
    | true =>
      obtain ⟨s', hs', hk'⟩ := h3 kl hh
      have := kv_inj hkl hk'
      omega
  rw [hno] at hrun
  have hat : D.atKey kl (.lit (.int .i64 0)) = .lit (.int .i64 0) := by
    obtain ⟨es, hD⟩ := h1.isMap
    subst hD
    rw [Maps.has_eq] at hno
    have hf : es.find? (fun p => p.1.sameKey kl) = none := List.find?_eq_none.2 (fun p hp => by
      have := List.any_eq_false.1 hno p hp
      simpa using this)
    simp only [DataW.atKey, hf]
  rw [hat] at hv
  obtain ⟨c, rfl, hc, _⟩ := plainElem_int_inv Ybad.underlying3 hv
  simp only [Prod.mk.injEq, DataW.lit.injEq, Lit.int.injEq, true_and] at hc
  rw [← hc.1] at hrun
  exact hrun

theorem RM.store {w : World} {b o j : Nat} (h : RM w b o j) (r : Nat) (hr : r < 9223372036854775808) (hj : j < 1048576) (ho : o < 18446744073709551616) :
    ∃ w', (Instr.mapUpdate 48 (.map (some b)) (kv o (j + 1)) (.int .i64 (r : Int))).run Ybad.prog w = .ok () w' ∧ RM w' b o (j + 1) ∧ w.grownBy w' (some b) := by
  obtain ⟨n, D, h1, h2, h3⟩ := h
  obtain ⟨kl, hkl⟩ := kv_key o (j + 1) ho (by omega)
  obtain ⟨w', hrun, h4, h5⟩ := h1.store rlaw Ybad.underlying48 (by unfold maxLen; omega) hkl (plainElem_int Ybad.underlying3 (i64_wf r hr))
  refine ⟨w', hrun, ⟨n + 1, _, h4, by omega, fun kl' hh => ?_⟩, h5.grown⟩
  by_cases e : kl' = kl
  · exact ⟨j + 1, Nat.le_refl _, by rw [e]; exact hkl⟩
  · rw [has_put_other e] at hh
    obtain ⟨s, hs, hk⟩ := h3 kl' hh
    exact ⟨s, by omega, hk⟩

theorem RM.drop {w : World} {b o j s : Nat} (h : RM w b o j) (ho : o < 18446744073709551616) (hs : s < 18446744073709551616) (ty : TypeId) :
    ∃ w', (Builtin.delete_ #[48, 70] ty #[.map (some b), kv o s]).run Ybad.prog w = .ok (.tuple #[]) w' ∧ RM w' b o j ∧ w.grownBy w' (some b) := by
  obtain ⟨n, D, h1, h2, h3⟩ := h
  obtain ⟨kl, hkl⟩ := kv_key o s ho hs
  obtain ⟨w', hrun, h4, h5⟩ := h1.drop rlaw Ybad.underlying48 hkl ty
  refine ⟨w', hrun, ⟨n, _, h4, h2, fun kl' hh => ?_⟩, h5.grown⟩
  by_cases e : kl' = kl
  · rw [e, has_del_same] at hh
    cases hh
  · rw [has_del_other e] at hh
    exact h3 kl' hh

/-- the map of the incoming links -/
def IM (w : World) (b j : Nat) : Prop := ∃ n D, w.ownsMap (H := Unit) Ybad.prog 25 (plainElem Ybad.prog 3) b n D ∧ n ≤ j

theorem IM.lt {w : World} {b j : Nat} (h : IM w b j) : b < w.heap.size := by
  obtain ⟨n, D, h1, _⟩ := h
  exact h1.lt

theorem IM.of_block {w w' : World} {b j : Nat} (h : IM w b j) (he : w'.heap[b]? = w.heap[b]?) : IM w' b j := by
  obtain ⟨n, D, ⟨es, clock, hb, h1⟩, h2⟩ := h
  exact ⟨n, D, ⟨es, clock, he.trans hb, h1⟩, h2⟩

theorem IM.made (w : World) : IM (w.alloc (.map #[] 0)) w.heap.size 0 := ⟨0, _, World.ownsMap_made _ _ _ _, Nat.le_refl _⟩

theorem u32_wf (n : Nat) (h : n < 4294967296) : (Lit.int .u32 (n : Int)).wf = true := by
  simp only [Lit.wf, Bool.and_eq_true, decide_eq_true_eq]
  exact ⟨show (0 : Int) ≤ n by omega, show (n : Int) ≤ 4294967295 by omega⟩

theorem IM.store {w : World} {b j : Nat} (h : IM w b j) (x r : Nat) (hx : x < 4294967296) (hr : r < 9223372036854775808) (hj : j < 1048576) :
    ∃ w', (Instr.mapUpdate 47 (.map (some b)) (.int .u32 (x : Int)) (.int .i64 (r : Int))).run Ybad.prog w = .ok () w' ∧ IM w' b (j + 1) ∧ w.grownBy w' (some b) := by
  obtain ⟨n, D, h1, h2⟩ := h
  obtain ⟨w', hrun, h4, h5⟩ := h1.store ilaw Ybad.underlying47 (by unfold maxLen; omega) (keyOf_int_mk Ybad.underlying25 (u32_wf x hx)) (plainElem_int Ybad.underlying3 (i64_wf r hr))
  exact ⟨w', hrun, ⟨n + 1, _, h4, by omega⟩, h5.grown⟩

end Go.Proofs.YbulkgbaiDoor
