import Derived.Test.YbulkgbaiBase
import Derived.Maps.RangeWalk
import Derived.Maps.Ext
namespace Go.Zz
open Go.RowKit Go.Maps

/-- how an element reads: as itself -/
def RV (v : Value) : Option (DataW Value × List MemPlace) := some (.held v, [])

/-- block b is a map that holds, of the entries (K j, V j), j < m, just those with M j -/
def IX (w : World) (P : Program) (k : TypeId) (b m : Nat) (K V : Nat → Value) (M : Nat → Bool) : Prop :=
  (∀ j, j < m → ∃ kl, keyOf P k (K j) = some kl) ∧ (∀ i j, i < m → j < m → K i = K j → i = j) ∧
  ∃ D, w.ownsMap P k RV b (Maps.size D) D ∧ (∀ j kl, j < m → keyOf P k (K j) = some kl → has D kl = M j ∧ (M j = true → ∀ z, D.atKey kl z = .held (V j))) ∧ (∀ kl, has D kl = true → ∃ j, j < m ∧ keyOf P k (K j) = some kl)

/-- how many -/
def cnt (m : Nat) (M : Nat → Bool) : Nat := ((List.range m).filter M).length

theorem cnt_le (m : Nat) (M : Nat → Bool) : cnt m M ≤ m := by
  unfold cnt
  exact Nat.le_trans (List.length_filter_le _ _) (by simp)

theorem cnt_succ (m : Nat) (M : Nat → Bool) : cnt (m + 1) M = cnt m M + if M m then 1 else 0 := by
  unfold cnt
  rw [List.range_succ, List.filter_append, List.length_append]
  cases h : M m <;> simp [h]

theorem cnt_congr {m : Nat} {M M' : Nat → Bool} (h : ∀ j, j < m → M j = M' j) : cnt m M = cnt m M' := by
  unfold cnt
  rw [List.filter_congr fun j hj => h j (List.mem_range.1 hj)]

theorem own_tight {w : World} {P : Program} {k : TypeId} {b n : Nat} {D : DataW Value} (h : w.ownsMap P k RV b n D) : w.ownsMap P k RV b (Maps.size D) D := by
  obtain ⟨es, clock, hb, F, hs, rfl⟩ := h
  exact ⟨es, clock, hb, F, by simp [Maps.size, length_sorted], rfl⟩

namespace IX
variable {w : World} {P : Program} {k : TypeId} {b m : Nat} {K V : Nat → Value} {M : Nat → Bool}

theorem lt (h : IX w P k b m K V M) : b < w.heap.size := by
  obtain ⟨_, _, D, h1, _⟩ := h
  exact h1.lt

theorem isMap (h : IX w P k b m K V M) : ∃ es clock, w.heap[b]? = some (.map es clock) := by
  obtain ⟨_, _, D, ⟨es, clock, hb, _⟩, _⟩ := h
  exact ⟨es, clock, hb⟩

theorem of_block {w' : World} (h : IX w P k b m K V M) (he : w'.heap[b]? = w.heap[b]?) : IX w' P k b m K V M := by
  obtain ⟨h1, h2, D, ⟨es, clock, hb, h3⟩, h4⟩ := h
  exact ⟨h1, h2, D, ⟨es, clock, he.trans hb, h3⟩, h4⟩

theorem alloc (h : IX w P k b m K V M) (o : Obj) : IX (w.alloc o) P k b m K V M := h.of_block (Deep.blk_alloc_lt _ _ _ h.lt)

theorem congr {V' : Nat → Value} {M' : Nat → Bool} (h : IX w P k b m K V M) (hM : ∀ j, j < m → M j = M' j) (hV : ∀ j, j < m → M j = true → V j = V' j) : IX w P k b m K V' M' := by
  obtain ⟨h1, h2, D, h3, h4, h5⟩ := h
  refine ⟨h1, h2, D, h3, fun j kl hj hk => ?_, h5⟩
  obtain ⟨h6, h7⟩ := h4 j kl hj hk
  refine ⟨by rw [h6, hM j hj], fun hm z => ?_⟩
  rw [← hM j hj] at hm
  rw [h7 hm z, hV j hj hm]

theorem made (w : World) (P : Program) (k : TypeId) (K V : Nat → Value) (M : Nat → Bool) : IX (w.alloc (.map #[] 0)) P k w.heap.size 0 K V M :=
  ⟨fun j hj => by omega, fun i j hi => by omega, .map [], World.ownsMap_made _ _ _ _, fun j kl hj => by omega, fun kl h => by simp [Maps.has] at h⟩

/-- the key of another number is another literal -/
theorem lit_ne (Kd : Keyed P k) (h : IX w P k b m K V M) {i j : Nat} {a c : Lit} (hi : i < m) (hj : j < m) (ha : keyOf P k (K i) = some a) (hc : keyOf P k (K j) = some c) (hne : i ≠ j) : a ≠ c := fun e => by
  subst e
  exact hne (h.2.1 i j hi hj (Kd.inj ha hc))

theorem look (Kd : Keyed P k) {t e : TypeId} (ht : P.underlying t = some (.map k e)) {z : Value} (hz : (zeroValue e).run P w = .ok z w) (h : IX w P k b m K V M) {j : Nat} (hj : j < m) :
    (Instr.lookup t (.map (some b)) (K j) true).run P w = .ok (.tuple #[if M j then V j else z, .bool (M j)]) w := by
  obtain ⟨h1, h2, D, h3, h4, h5⟩ := h
  obtain ⟨kl, hkl⟩ := h1 j hj
  obtain ⟨h6, h7⟩ := h4 j kl hj hkl
  obtain ⟨v, ps, hrun, hv⟩ := h3.look_ok Kd ht hz (zd := .held z) (zp := []) rfl hkl
  rw [h6] at hrun
  rw [hrun]
  unfold RV at hv
  simp only [Option.some.injEq, Prod.mk.injEq] at hv
  cases hm : M j with
  | true => rw [h7 hm] at hv; simp at hv; simp [hv.1]
  | false => rw [hm] at h6; rw [atKey_of_not_has h6] at hv; simp at hv; simp [hv.1]

theorem look_none (Kd : Keyed P k) {t e : TypeId} (ht : P.underlying t = some (.map k e)) {z : Value} (hz : (zeroValue e).run P w = .ok z w) (h : IX w P k b m K V M) {key : Value} {kl : Lit} (hkl : keyOf P k key = some kl) (hno : ∀ j, j < m → K j ≠ key) :
    (Instr.lookup t (.map (some b)) key true).run P w = .ok (.tuple #[z, .bool false]) w := by
  obtain ⟨h1, h2, D, h3, h4, h5⟩ := h
  obtain ⟨v, ps, hrun, hv⟩ := h3.look_ok Kd ht hz (zd := .held z) (zp := []) rfl hkl
  have h6 : has D kl = false := by
    cases hh : has D kl with
    | false => rfl
    | true =>
      obtain ⟨j, hj, hk⟩ := h5 kl hh
      exact absurd (Kd.inj hk hkl) (hno j hj)
  rw [h6] at hrun
  rw [hrun]
  unfold RV at hv
  simp only [Option.some.injEq, Prod.mk.injEq] at hv
  rw [atKey_of_not_has h6] at hv
  simp at hv
  simp [hv.1]

theorem size_eq (Kd : Keyed P k) (h : IX w P k b m K V M) : ∃ D, w.ownsMap P k RV b (Maps.size D) D ∧ Maps.size D = cnt m M := by
  have h0 := h
  obtain ⟨h1, h2, D, h3, h4, h5⟩ := h
  refine ⟨D, h3, ?_⟩
  obtain ⟨es, rfl, hp⟩ := h3.tidy Kd
  have hex : ∀ j, ∃ kl, j < m → keyOf P k (K j) = some kl := fun j => by
    by_cases hj : j < m
    · obtain ⟨kl, hk⟩ := h1 j hj; exact ⟨kl, fun _ => hk⟩
    · exact ⟨.bool true, fun h => absurd h hj⟩
  obtain ⟨g, hg⟩ : ∃ g : Nat → Lit, ∀ j, j < m → keyOf P k (K j) = some (g j) := ⟨fun j => Classical.choose (hex j), fun j => Classical.choose_spec (hex j)⟩
  have hl : (((List.range m).filter M).map g).Perm (es.map (·.1)) := by
    refine (List.perm_ext_iff_of_nodup ?_ ?_).2 ?_
    · rw [List.nodup_iff_pairwise_ne, List.pairwise_map]
      refine List.Pairwise.imp_of_mem ?_ ((List.nodup_iff_pairwise_ne.1 List.nodup_range).filter M)
      intro a c ha hc hne
      have ha' := List.mem_range.1 (List.mem_filter.1 ha).1
      have hc' := List.mem_range.1 (List.mem_filter.1 hc).1
      exact h0.lit_ne Kd ha' hc' (hg a ha') (hg c hc') hne
    · rw [List.nodup_iff_pairwise_ne, List.pairwise_map]
      exact hp
    · intro kl
      constructor
      · intro hm
        obtain ⟨j, hj, rfl⟩ := List.mem_map.1 hm
        obtain ⟨hj1, hj2⟩ := List.mem_filter.1 hj
        have hj' := List.mem_range.1 hj1
        have := (h4 j _ hj' (hg j hj')).1
        rw [hj2, Maps.has_eq] at this
        obtain ⟨p, hp1, hp2⟩ := List.any_eq_true.1 this
        exact List.mem_map.2 ⟨p, hp1, WideAt.sameKey_eq hp2⟩
      · intro hm
        obtain ⟨p, hp1, rfl⟩ := List.mem_map.1 hm
        obtain ⟨es', hes, hpw, hkey⟩ := h3.entries Kd
        cases hes
        have hh : has (DataW.map es) p.1 = true := List.any_eq_true.2 ⟨p, hp1, WideAt.sameKey_self (hkey p hp1)⟩
        obtain ⟨j, hj, hk⟩ := h5 _ hh
        have h6 := (h4 j _ hj hk).1
        rw [hh] at h6
        refine List.mem_map.2 ⟨j, List.mem_filter.2 ⟨List.mem_range.2 hj, h6.symm⟩, ?_⟩
        have := hg j hj
        rw [hk] at this
        exact (Option.some.inj this).symm
  have := hl.length_eq
  simp only [List.length_map] at this
  unfold cnt
  rw [this]
  rfl

theorem len (Kd : Keyed P k) {t e : TypeId} (ht : P.underlying t = some (.map k e)) (h : IX w P k b m K V M) (ty : TypeId) : (Builtin.len_ #[t] ty #[.map (some b)]).run P w = .ok (.int .i64 (cnt m M : Int)) w := by
  obtain ⟨D, h1, h2⟩ := h.size_eq Kd
  rw [h1.len ht ty, h2]

/-- a new key -/
theorem store (Kd : Keyed P k) {t e : TypeId} (ht : P.underlying t = some (.map k e)) (h : IX w P k b m K V M) (hm : m < 1048576) {key val : Value} {kl : Lit} (hkl : keyOf P k key = some kl) (hno : ∀ j, j < m → K j ≠ key) {K' V' : Nat → Value} {M' : Nat → Bool}
    (hK : ∀ j, j < m → K' j = K j) (hV : ∀ j, j < m → V' j = V j) (hM : ∀ j, j < m → M' j = M j) (hKm : K' m = key) (hVm : V' m = val) (hMm : M' m = true) :
    ∃ w', (Instr.mapUpdate t (.map (some b)) key val).run P w = .ok () w' ∧ IX w' P k b (m + 1) K' V' M' ∧ w.grownBy w' (some b) := by
  obtain ⟨D0, g1, g2⟩ := h.size_eq Kd
  have hcl := cnt_le m M
  have h0 := h
  obtain ⟨h1, h2, D, h3, h4, h5⟩ := h
  have hD : Maps.size D = Maps.size D0 := by
    obtain ⟨es, c, hb, _, _, rfl⟩ := h3
    obtain ⟨es', c', hb', _, _, rfl⟩ := g1
    rw [hb] at hb'
    cases hb'
    rfl
  obtain ⟨w', hrun, h6, h7⟩ := h3.store Kd ht (by rw [hD, g2]; unfold maxLen; omega) hkl (val := val) (d := .held val) (ps := []) rfl
  refine ⟨w', hrun, ⟨fun j hj => ?_, fun i j hi hj he => ?_, _, own_tight h6, fun j kl' hj hk => ?_, fun kl' hh => ?_⟩, h7.grown⟩
  · by_cases e : j = m
    · subst e; exact ⟨kl, by rw [hKm]; exact hkl⟩
    · rw [hK j (by omega)]; exact h1 j (by omega)
  · by_cases e : i = m
    · by_cases e' : j = m
      · omega
      · subst e
        rw [hKm, hK j (by omega)] at he
        exact absurd he.symm (hno j (by omega))
    · by_cases e' : j = m
      · subst e'
        rw [hKm, hK i (by omega)] at he
        exact absurd he (hno i (by omega))
      · rw [hK i (by omega), hK j (by omega)] at he
        exact h2 i j (by omega) (by omega) he
  · by_cases e : j = m
    · subst e
      rw [hKm, hkl] at hk
      cases hk
      refine ⟨by rw [has_put_same h3.isMap (Kd.key hkl), hMm], fun _ z => ?_⟩
      rw [atKey_put_same h3.isMap (Kd.key hkl), hVm]
    · rw [hK j (by omega)] at hk
      have hne : kl' ≠ kl := fun e1 => by
        subst e1
        exact hno j (by omega) (Kd.inj hk hkl)
      obtain ⟨h8, h9⟩ := h4 j kl' (by omega) hk
      rw [has_put_other hne, hM j (by omega), hV j (by omega)]
      exact ⟨h8, fun hm z => by rw [atKey_put_other hne]; exact h9 hm z⟩
  · by_cases e : kl' = kl
    · exact ⟨m, by omega, by rw [hKm, e]; exact hkl⟩
    · rw [has_put_other e] at hh
      obtain ⟨j, hj, hk⟩ := h5 kl' hh
      exact ⟨j, by omega, by rw [hK j hj]; exact hk⟩

/-- a key that is there -/
theorem restore (Kd : Keyed P k) {t e : TypeId} (ht : P.underlying t = some (.map k e)) (h : IX w P k b m K V M) (hm : m < 1048576) {i : Nat} (hi : i < m) (hMi : M i = true) {key val : Value} (hKi : K i = key) :
    ∃ w', (Instr.mapUpdate t (.map (some b)) key val).run P w = .ok () w' ∧ IX w' P k b m K (fun j => if j = i then val else V j) M ∧ w.grownBy w' (some b) := by
  obtain ⟨D0, g1, g2⟩ := h.size_eq Kd
  have hcl := cnt_le m M
  have h0 := h
  obtain ⟨h1, h2, D, h3, h4, h5⟩ := h
  have hD : Maps.size D = Maps.size D0 := by
    obtain ⟨es, c, hb, _, _, rfl⟩ := h3
    obtain ⟨es', c', hb', _, _, rfl⟩ := g1
    rw [hb] at hb'
    cases hb'
    rfl
  obtain ⟨kl, hkl⟩ := h1 i hi
  have hkl' : keyOf P k key = some kl := by rw [← hKi]; exact hkl
  obtain ⟨w', hrun, h6, h7⟩ := h3.store Kd ht (by rw [hD, g2]; unfold maxLen; omega) hkl' (val := val) (d := .held val) (ps := []) rfl
  refine ⟨w', hrun, ⟨h1, h2, _, own_tight h6, fun j kl' hj hk => ?_, fun kl' hh => ?_⟩, h7.grown⟩
  · by_cases e : j = i
    · subst e
      rw [hkl] at hk
      cases hk
      refine ⟨by rw [has_put_same h3.isMap (Kd.key hkl), hMi], fun _ z => ?_⟩
      rw [atKey_put_same h3.isMap (Kd.key hkl)]
      simp
    · have hne : kl' ≠ kl := h0.lit_ne Kd hj hi hk hkl e
      obtain ⟨h8, h9⟩ := h4 j kl' hj hk
      rw [has_put_other hne]
      exact ⟨h8, fun hm z => by rw [atKey_put_other hne, h9 hm z]; simp [e]⟩
  · by_cases e : kl' = kl
    · exact ⟨i, hi, by rw [e]; exact hkl⟩
    · rw [has_put_other e] at hh
      exact h5 kl' hh

theorem del_aux (Kd : Keyed P k) (h : IX w P k b m K V M) {D : DataW Value} {i : Nat} (hi : i < m) {kl : Lit} (hkl : keyOf P k (K i) = some kl)
    (h4 : ∀ j kl, j < m → keyOf P k (K j) = some kl → has D kl = M j ∧ (M j = true → ∀ z, D.atKey kl z = .held (V j))) (h5 : ∀ kl, has D kl = true → ∃ j, j < m ∧ keyOf P k (K j) = some kl) :
    (∀ j kl', j < m → keyOf P k (K j) = some kl' → has (D.del kl) kl' = (M j && !decide (j = i)) ∧ ((M j && !decide (j = i)) = true → ∀ z, (D.del kl).atKey kl' z = .held (V j))) ∧ (∀ kl', has (D.del kl) kl' = true → ∃ j, j < m ∧ keyOf P k (K j) = some kl') := by
  refine ⟨fun j kl' hj hk => ?_, fun kl' hh => ?_⟩
  · by_cases e : j = i
    · subst e
      rw [hkl] at hk
      cases hk
      rw [has_del_same]
      exact ⟨by simp, fun h => by simp at h⟩
    · have hne : kl' ≠ kl := h.lit_ne Kd hj hi hk hkl e
      obtain ⟨h8, h9⟩ := h4 j kl' hj hk
      rw [has_del_other hne]
      refine ⟨by simp [h8, e], fun hm z => ?_⟩
      rw [atKey_del_other hne]
      exact h9 (by simp at hm; exact hm.1) z
  · by_cases e : kl' = kl
    · rw [e, has_del_same] at hh; cases hh
    · rw [has_del_other e] at hh
      exact h5 kl' hh

theorem drop (Kd : Keyed P k) {t e : TypeId} (ht : P.underlying t = some (.map k e)) (h : IX w P k b m K V M) {i : Nat} (hi : i < m) {key : Value} (hKi : K i = key) (ty : TypeId) :
    ∃ w', (Builtin.delete_ #[t, k] ty #[.map (some b), key]).run P w = .ok (.tuple #[]) w' ∧ IX w' P k b m K V (fun j => M j && !decide (j = i)) ∧ w.grownBy w' (some b) := by
  have h0 := h
  obtain ⟨h1, h2, D, h3, h4, h5⟩ := h
  obtain ⟨kl, hkl⟩ := h1 i hi
  obtain ⟨w', hrun, h6, h7⟩ := h3.drop Kd ht (key := key) (by rw [← hKi]; exact hkl) ty
  obtain ⟨h8, h9⟩ := h0.del_aux Kd hi hkl h4 h5
  exact ⟨w', hrun, ⟨h1, h2, _, own_tight h6, h8, h9⟩, h7.grown⟩
end IX

/-- ranging over such a map: L j: the entry j is still to come -/
def RX (w : World) (P : Program) (k : TypeId) (b r m : Nat) (K V : Nat → Value) (M L : Nat → Bool) (c : Nat) : Prop :=
  (∀ j, j < m → ∃ kl, keyOf P k (K j) = some kl) ∧ (∀ i j, i < m → j < m → K i = K j → i = j) ∧
  ∃ n D left, w.ranges P k RV b r n D left c ∧ (∀ j kl, j < m → keyOf P k (K j) = some kl → has D kl = M j ∧ (M j = true → ∀ z, D.atKey kl z = .held (V j))) ∧ (∀ kl, has D kl = true → ∃ j, j < m ∧ keyOf P k (K j) = some kl) ∧
    (∀ j kl, j < m → keyOf P k (K j) = some kl → left kl = L j) ∧ ∀ kl, left kl = true → ∃ j, j < m ∧ keyOf P k (K j) = some kl

namespace RX
variable {w : World} {P : Program} {k : TypeId} {b r m c : Nat} {K V : Nat → Value} {M L : Nat → Bool}

theorem ix (h : RX w P k b r m K V M L c) : IX w P k b m K V M := by
  obtain ⟨h1, h2, n, D, left, h3, h4, h5, _⟩ := h
  exact ⟨h1, h2, D, own_tight h3.owns, h4, h5⟩

theorem ne (h : RX w P k b r m K V M L c) : r ≠ b := by
  obtain ⟨h1, h2, n, D, left, h3, h4, h5, _⟩ := h
  exact h3.ne

theorem lt (h : RX w P k b r m K V M L c) : r < w.heap.size := by
  obtain ⟨h1, h2, n, D, left, h3, h4, h5, _⟩ := h
  exact h3.lt

theorem iter (h : RX w P k b r m K V M L c) : ∃ x y z v, w.heap[r]? = some (.mapIter x y z v) := by
  obtain ⟨h1, h2, n, D, left, ⟨_, _, _, _, _, _, _, _, _, h3, _⟩, _⟩ := h
  exact ⟨_, _, _, _, h3⟩

theorem left_eq (h : RX w P k b r m K V M L c) : w.rangeLeft b r = c := by
  obtain ⟨h1, h2, n, D, left, h3, h4, h5, _⟩ := h
  exact h3.left_eq

theorem of_blocks {w' : World} (h : RX w P k b r m K V M L c) (hb : w'.heap[b]? = w.heap[b]?) (hr : w'.heap[r]? = w.heap[r]?) : RX w' P k b r m K V M L c := by
  obtain ⟨h1, h2, n, D, left, ⟨es, clock, since, seen, c0, hb1, F, hs, hD, hr1, h3⟩, h4⟩ := h
  exact ⟨h1, h2, n, D, left, ⟨es, clock, since, seen, c0, hb.trans hb1, F, hs, hD, hr.trans hr1, h3⟩, h4⟩

theorem alloc (h : RX w P k b r m K V M L c) (o : Obj) : RX (w.alloc o) P k b r m K V M L c := h.of_blocks (Deep.blk_alloc_lt _ _ _ h.ix.lt) (Deep.blk_alloc_lt _ _ _ h.lt)

theorem congr {M' L' : Nat → Bool} (h : RX w P k b r m K V M L c) (hM : ∀ j, j < m → M j = M' j) (hL : ∀ j, j < m → L j = L' j) : RX w P k b r m K V M' L' c := by
  obtain ⟨h1, h2, n, D, left, h3, h4, h5, h6, h7⟩ := h
  refine ⟨h1, h2, n, D, left, h3, fun j kl hj hk => ?_, h5, fun j kl hj hk => by rw [h6 j kl hj hk, hL j hj], h7⟩
  obtain ⟨h8, h9⟩ := h4 j kl hj hk
  exact ⟨by rw [h8, hM j hj], fun hm z => h9 (by rw [hM j hj]; exact hm) z⟩

theorem drop (Kd : Keyed P k) {t e : TypeId} (ht : P.underlying t = some (.map k e)) (h : RX w P k b r m K V M L c) {i : Nat} (hi : i < m) {key : Value} (hKi : K i = key) (ty : TypeId) :
    ∃ w' c', (Builtin.delete_ #[t, k] ty #[.map (some b), key]).run P w = .ok (.tuple #[]) w' ∧ RX w' P k b r m K V (fun j => M j && !decide (j = i)) (fun j => L j && !decide (j = i)) c' ∧ c' ≤ c ∧ w.grownBy w' (some b) := by
  have h0 := h.ix
  obtain ⟨h1, h2, n, D, left, h3, h4, h5, h6, h7⟩ := h
  obtain ⟨kl, hkl⟩ := h1 i hi
  obtain ⟨w', c', hrun, h8, h9, h10⟩ := h3.drop Kd ht (key := key) (by rw [← hKi]; exact hkl) ty
  obtain ⟨h11, h12⟩ := h0.del_aux Kd hi hkl h4 h5
  refine ⟨w', c', hrun, ⟨h1, h2, n, _, _, h8, h11, h12, fun j kl' hj hk => ?_, fun kl' hh => ?_⟩, h9, h10.grown⟩
  · show (left kl' && !kl'.sameKey kl) = _
    rw [h6 j kl' hj hk]
    by_cases e : j = i
    · subst e
      rw [hkl] at hk
      cases hk
      rw [WideAt.sameKey_self (Kd.key hkl)]
      simp
    · rw [sameKey_ne (h0.lit_ne Kd hj hi hk hkl e)]
      simp [e]
  · simp only [Bool.and_eq_true] at hh
    exact h7 kl' hh.1
end RX

theorem IX.range {w : World} {P : Program} {k : TypeId} {b m : Nat} {K V : Nat → Value} {M : Nat → Bool} (Kd : Keyed P k) {t e : TypeId} (ht : P.underlying t = some (.map k e)) (h : IX w P k b m K V M) :
    ∃ w', (Instr.range t (.map (some b))).run P w = .ok (.pointer (some ⟨w.heap.size, 0, none⟩)) w' ∧ RX w' P k b w.heap.size m K V M M (cnt m M) ∧ w.grownBy w' none ∧ w'.heap.size = w.heap.size + 1 := by
  obtain ⟨D0, g1, g2⟩ := h.size_eq Kd
  obtain ⟨h1, h2, D, h3, h4, h5⟩ := h
  have hD : Maps.size D = Maps.size D0 := by
    obtain ⟨es, c, hb, _, _, rfl⟩ := h3
    obtain ⟨es', c', hb', _, _, rfl⟩ := g1
    rw [hb] at hb'
    cases hb'
    rfl
  obtain ⟨w', hrun, h6, h7, h8⟩ := h3.range Kd ht
  rw [hD, g2] at h6
  exact ⟨w', hrun, ⟨h1, h2, _, D, _, h6, h4, h5, fun j kl hj hk => (h4 j kl hj hk).1, h5⟩, h7, h8⟩

/-- 'range m' at the operation -/
theorem wpList_range_ix {P : Program} (w : World) {ops : Array Oper} {rest : List Oper} {o : Oper} {a : Act} {Q : Exit → Act → World → Prop} (hg : o.guard = none) (mo : Operand) (t : TypeId) (hop : o.op = Op.range t mo) (k e : TypeId) (Kd : Keyed P k) (ht : P.underlying t = some (.map k e))
    (b m : Nat) (K V : Nat → Value) (M : Nat → Bool) (hm : a.eval mo = .map (some b)) (h : IX w P k b m K V M)
    (hK : ∀ w', RX w' P k b w.heap.size m K V M M (cnt m M) → w.grownBy w' none → w'.heap.size = w.heap.size + 1 → wpList P ops Q rest (a.put o.dst (.pointer (some ⟨w.heap.size, 0, none⟩))) w') :
    wpList P ops Q (o :: rest) a w := by
  refine wpList_plain hg fun K' hK' => ?_
  obtain ⟨w', hrun, r1, r2, r3⟩ := h.range Kd ht
  unfold Oper.wp
  simp [execOp, hop, hm, hrun, Result.andThen]
  exact hK' _ _ (hK w' r1 r2 r3)

/-- the step -/
theorem wpList_next_ix {P : Program} (w : World) {ops : Array Oper} {rest : List Oper} {o : Oper} {a : Act} {Q : Exit → Act → World → Prop} (hg : o.guard = none) (it : Operand) (hop : o.op = Op.next it false) (k : TypeId) (Kd : Keyed P k) (b r m : Nat) (K V : Nat → Value) (M L : Nat → Bool) (c : Nat)
    (hit : a.eval it = .pointer (some ⟨r, 0, none⟩)) (h : RX w P k b r m K V M L c) (hLM : ∀ j, j < m → L j = true → M j = true)
    (hDone : (∀ j, j < m → L j = false) → wpList P ops Q rest (a.put o.dst (.tuple #[.bool false])) w)
    (hMore : ∀ (j : Nat) (w' : World) (c' : Nat), j < m → L j = true → RX w' P k b r m K V M (fun i => L i && !decide (i = j)) c' → c' < c → w.grownBy w' (some r) → w'.heap.size = w.heap.size →
      (Instr.entry (.pointer (some ⟨r, 0, none⟩))).run P w' = .ok (.tuple #[K j, V j]) w' → wpList P ops Q rest (a.put o.dst (.tuple #[.bool true, K j, V j])) w') :
    wpList P ops Q (o :: rest) a w := by
  refine wpList_plain hg fun K' hK' => ?_
  unfold Oper.wp
  have h0 := h.ix
  obtain ⟨h1, h2, n, D, left, h3, h4, h5, h6, h7⟩ := h
  rcases h3.next Kd o.type with ⟨hc0, hl, hrun⟩ | ⟨key, v, kl, y, w', cnt', hkey, hlk, hv, hat, hrun, hrg, hlt, hgr, hsz, hen⟩
  · simp [execOp, hop, hit, hrun, Result.andThen]
    refine hK' _ _ (hDone fun j hj => ?_)
    obtain ⟨kl, hkl⟩ := h1 j hj
    rw [← h6 j kl hj hkl]
    exact hl kl
  · obtain ⟨j, hj, hkj⟩ := h7 kl hlk
    obtain rfl : K j = key := Kd.inj hkj hkey
    have hL : L j = true := by rw [← h6 j kl hj hkj]; exact hlk
    obtain ⟨_, h9⟩ := h4 j kl hj hkj
    have hvj : v = V j := by
      have e1 := hat .nil
      rw [h9 (hLM j hj hL) .nil] at e1
      unfold RV at hv
      simp only [Option.some.injEq] at hv
      rw [← hv] at e1
      simp at e1
      exact e1.symm
    subst hvj
    simp [execOp, hop, hit, hrun, Result.andThen]
    refine hK' _ _ (hMore j w' cnt' hj hL ⟨h1, h2, n, D, _, hrg, h4, h5, fun i kl' hi hk => ?_, fun kl' hh => ?_⟩ hlt hgr hsz hen)
    · show (left kl' && !kl'.sameKey kl) = _
      rw [h6 i kl' hi hk]
      by_cases e : i = j
      · subst e
        rw [hkj] at hk
        cases hk
        rw [WideAt.sameKey_self (Kd.key hkey)]
        simp
      · rw [sameKey_ne (h0.lit_ne Kd hi hj hk hkj e)]
        simp [e]
    · simp only [Bool.and_eq_true] at hh
      exact h7 kl' hh.1
end Go.Zz
