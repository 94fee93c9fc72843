import Derived.Test.YbulkgbaiEnded
import Derived.Test.YbulkgbaiSort
import Derived.Sort.OwnSortedInts
namespace Go.Proofs.Ybulkgbai
open Go.RowKit Go.Zz Go.Maps

theorem vec_slice {w : World} {B : Nat} {e : TypeId} {size : Nat} {v : Value} {n : Nat} {f : Nat → Value} (h : Vec w B e size v n f) : ∃ ao cp, v = .slice ao n cp ∧ (0 < n → ∃ g, ao = some ⟨g, 0, none⟩) := by
  rcases h.shape with ⟨rfl, rfl⟩ | ⟨b, cap, rfl, _⟩
  · exact ⟨none, 0, rfl, fun h => by omega⟩
  · exact ⟨_, _, rfl, fun _ => ⟨b, rfl⟩⟩

theorem below_le {B : Nat} {w w' : World} (h : Below w.heap.size w w') (hB : B ≤ w.heap.size) : Below B w w' := h.mono hB
theorem below_alloc (w : World) (o : Obj) : Below w.heap.size w (w.alloc o) := (Below.refl _ _).alloc (Nat.le_refl _) _
theorem cell_grow {w w' : World} (hb : Below w.heap.size w w') {a : Addr} {v : Value} (hc : w.cell? a = some v) : w'.cell? a = some v := (hb.cell (World.block_lt_of_cell? w a hc)).trans hc
theorem vec_grow {w w' : World} {B : Nat} {e : TypeId} {size : Nat} {v : Value} {n : Nat} {f : Nat → Value} (h : Vec w B e size v n f) (hb : Below w.heap.size w w') : Vec w' B e size v n f := (Kept.of_below (S := []) hb).vec h (by simp)

def zl (l : List Nat) : List Int := l.map fun x : Nat => (x : Int)

theorem zl_len (l : List Nat) : (zl l).length = l.length := by simp [zl]

theorem zl_get (l : List Nat) (j : Nat) (hj : j < l.length) : Value.int .i64 ((zl l).getD j 0) = lf l j := by
  unfold lf iv zl
  simp [List.getD_eq_getElem?_getD, hj]

theorem vals_lf (l : List Nat) : vals (l.length * 1) (lf l) = (zl l).map (Value.int .i64) := by
  apply List.ext_getElem?
  intro j
  by_cases hj : j < l.length
  · rw [vals_get _ _ _ (by omega), List.getElem?_map, ← zl_get l j hj, List.getElem?_eq_getElem (by rw [zl_len]; exact hj)]
    simp [List.getD_eq_getElem?_getD, List.getElem?_eq_getElem (show j < (zl l).length by rw [zl_len]; exact hj)]
  · rw [List.getElem?_eq_none (by rw [vals_length]; omega), List.getElem?_eq_none (by simp [zl_len]; omega)]

/-- slices.Clone of a row of the call's own -/
theorem clone_any (B : Nat) (l : List Nat) (v : Value) (w : World) (hv : Vec w B 3 1 v l.length (lf l)) (hl : l.length ≤ 4096) :
    Calls Yba.prog 16 #[v] w fun x w' => ∃ v', x = .returned v' ∧ Vec w' w.heap.size 3 1 v' l.length (lf l) ∧ Below w.heap.size w w' := by
  rcases hv.shape with ⟨rfl, h0⟩ | ⟨b, cap, rfl, _⟩
  · refine (Yba.slices_Clone_int_nil 0 0 w).mono ?_
    rintro x w' ⟨rfl, rfl⟩
    rw [h0]
    exact ⟨_, rfl, Vec.nil _ _ _ _ _, Below.refl _ _⟩
  · refine (Yba.slices_Clone_int b 0 l.length cap (zl l) w (by rw [zl_len]; omega) (by omega) (fun j hj => ?_)).mono ?_
    · rw [zl_len] at hj
      rw [zl_get l j hj, Nat.zero_add]
      exact hv.cell (by omega)
    · rintro x w' ⟨v', rfl, ho, _, hb⟩
      refine ⟨v', rfl, ?_, hb⟩
      unfold Vec
      rw [vals_lf, ← List.take_of_length_le (l := zl l) (i := l.length) (by rw [zl_len]; omega)]
      exact ho

theorem sorted_eq (l s : List Nat) (hp : l.Perm s) (hs : s.Pairwise (· ≤ ·)) : (zl l).mergeSort (fun x y => decide (x ≤ y)) = zl s := by
  refine List.Perm.eq_of_pairwise (le := fun a b : Int => decide (a ≤ b) = true) (fun a b _ _ h1 h2 => by simp only [decide_eq_true_eq] at h1 h2; omega) (List.pairwise_mergeSort (fun a b c h1 h2 => by simp only [decide_eq_true_eq] at h1 h2 ⊢; omega) (fun a b => by simp only [Bool.or_eq_true, decide_eq_true_eq]; omega) _) ?_ ((List.mergeSort_perm _ _).trans (hp.map _))
  unfold zl
  rw [List.pairwise_map]
  exact hs.imp fun {a b} h => by simp only [decide_eq_true_eq]; omega

/-- slices.Sort of a row of the call's own -/
theorem sort_any (B : Nat) (l s : List Nat) (v : Value) (w : World) (hv : Vec w B 3 1 v l.length (lf l)) (hl : l.length ≤ 4096) (hp : l.Perm s) (hs : s.Pairwise (· ≤ ·)) :
    Calls Yba.prog 17 #[v] w fun x w' => x = .returned (.tuple #[]) ∧ Vec w' B 3 1 v s.length (lf s) ∧ w.grownBy w' v.ownBlock := by
  have hlen := hp.length_eq
  rcases hv.2 with ⟨rfl, h0⟩ | ⟨b, cap, cur, rfl, hB, hb, h1, h2, h3, h4⟩
  · refine (Yba.slices_Sort_int_none none 0 w).mono ?_
    rintro x w' ⟨rfl, rfl⟩
    rw [← hlen, h0]
    exact ⟨rfl, Vec.nil _ _ _ _ _, grownBy_refl _ _⟩
  · rw [vals_lf] at h4
    have hH : Go.Sort.Holds (Value.int .i64) w b 0 (zl l).toArray := Go.holds_of_blockI hb (by rw [zl_len]; simpa using h4)
    have hc := Yba.slices_Sort_int b 0 cap (zl l) w hH (Array.getElem?_eq_some_iff.1 hb).1 (by rw [zl_len]; omega)
    rw [zl_len] at hc
    refine hc.mono ?_
    rintro x w' ⟨rfl, n, os, rfl⟩
    rw [sorted_eq l s hp hs]
    refine ⟨rfl, ?_, Go.grownBy_sortedI _⟩
    have ho := Go.ownsRow_sortedI (w := w) (base := B) (g := b) (cap := cap) (n := n) (e := 3) (os := os) (cur := cur) (ss := zl l) (ts := zl s) (by rw [zl_len, zl_len, hlen]) hB hb (by rw [zl_len]; exact h1) h2 h3
    unfold Vec
    rw [zl_len, ← vals_lf] at ho
    rw [← hlen] at ho ⊢
    exact ho

/-- slices.Equal of two rows that hold the same -/
theorem equal_any (B B' : Nat) (l : List Nat) (v v' : Value) (w : World) (hv : Vec w B 3 1 v l.length (lf l)) (hv' : Vec w B' 3 1 v' l.length (lf l)) (hl : l.length ≤ 4096) :
    Calls Yba.prog 18 #[v, v'] w fun x w' => x = .returned (.bool true) ∧ Kept [] w w' := by
  obtain ⟨a1, c1, rfl, h1⟩ := vec_slice hv
  obtain ⟨a2, c2, rfl, h2⟩ := vec_slice hv'
  by_cases h0 : l.length = 0
  · rw [h0]
    refine (Yba.slices_Equal_int_empty a1 a2 c1 0 c2 w (by omega)).mono ?_
    rintro x w' ⟨rfl, rfl⟩
    exact ⟨by simp, Kept.refl _ _⟩
  · obtain ⟨g1, rfl⟩ := h1 (by omega)
    obtain ⟨g2, rfl⟩ := h2 (by omega)
    refine (Yba.slices_Equal_int g1 0 l.length c1 g2 0 l.length c2 (zl l) (zl l) w (by rw [zl_len]; omega) (by rw [zl_len]; omega) (by omega) (by omega) (fun j hj => ?_) (fun j hj => ?_)).mono ?_
    · rw [zl_len] at hj
      rw [zl_get l j hj, Nat.zero_add]
      exact hv.cell (by omega)
    · rw [zl_len] at hj
      rw [zl_get l j hj, Nat.zero_add]
      exact hv'.cell (by omega)
    · rintro x w' ⟨rfl, q, rfl⟩
      exact ⟨by simp, (Kept.refl _ w).drewN q⟩

/-- slices.Contains at ids -/
theorem contains13 (B n x : Nat) (f : Nat → Nat) (v : Value) (w : World) (hv : Vec w B 42 1 v n (fun i => idv (f i))) (hn : n ≤ 4096) :
    Calls Yba.prog 13 #[v, .int .u32 (x : Int)] w fun r w' => (((∃ i, i < n ∧ f i = x) ∧ r = .returned (.bool true)) ∨ ((∀ i, i < n → f i ≠ x) ∧ r = .returned (.bool false))) ∧ w' = w := by
  have hidx : Calls Yba.prog 20 #[v, .int .u32 (x : Int)] w fun r w' => (((∃ i, i < n ∧ f i = x) ∧ ∃ k : Nat, r = .returned (.int .i64 (k : Int))) ∨ ((∀ i, i < n → f i ≠ x) ∧ r = .returned (.int .i64 (-1)))) ∧ w' = w := by
    obtain ⟨ao, cp, rfl, hao⟩ := vec_slice hv
    go_enter Yba.func20, Yba.ntmps20
    go_wp2_with fail
    go_loopw [8, 5] (fun i _ wr => ∃ t : Nat, t ≤ n ∧ i = .int .i64 t ∧ (∀ j, j < t → f j ≠ x) ∧ w = wr) (fun i _ _ => n - (intOf i).toNat)
    case atStart => exact ⟨0, by omega, rfl, fun j hj => by omega, rfl⟩
    case round =>
      obtain ⟨t, ht, rfl, hno, rfl⟩ := hrel
      by_cases htn : t < n
      · obtain ⟨g, rfl⟩ := hao (by omega)
        have c0 : w.cell? ⟨g, t, none⟩ = some (.int .u32 (f t : Int)) := hv.cell (by omega)
        by_cases he : f t = x
        · have e1 : ((x : Int) == (f t : Int)) = true := by simp [he]
          have HV := hid hv
          have HE := hid he
          clear hv hao hno he
          go_wp2
          go_ret
          exact ⟨.inl ⟨⟨t, htn, HE.out⟩, t, rfl⟩, rfl⟩
        · have e1 : ((x : Int) == (f t : Int)) = false := by simp; omega
          have HNO : Hid (∀ j, j < t + 1 → f j ≠ x) := fun j hj e2 => by
            by_cases h : j = t
            · exact he (by rw [← h]; exact e2)
            · exact hno j (by omega) e2
          clear hno he
          go_wp2
          go_roundw
          case rel => exact ⟨t + 1, by omega, by go_num, HNO.out, trivial⟩
          case measure => simp [intOf]; omega
      · obtain rfl : t = n := by omega
        have HNO := hid hno
        clear hno
        go_wp2
        go_ret
        exact ⟨.inr ⟨HNO.out, rfl⟩, rfl⟩
  obtain ⟨ao, cp, rfl, hao⟩ := vec_slice hv
  have HI := hid hidx
  clear hidx hv
  go_enter Yba.func13, Yba.ntmps13
  go_wp2_with (go_at_call 20; refine HI.out.mono ?_; rintro r w1 ⟨h1, rfl⟩; rcases h1 with ⟨hex, k, rfl⟩ | ⟨hno, rfl⟩)
  · go_ret
    exact ⟨.inl ⟨hex, by simp⟩, rfl⟩
  · go_ret
    exact ⟨.inr ⟨hno, by simp⟩, rfl⟩

/-- the cells of a row of link keys -/
def kf2 (f nn : Nat → Nat) (c : Nat) : Value := if c % 2 = 0 then .int .u32 (f (c / 2) : Int) else .int .u64 (nn (c / 2) : Int)

theorem kf2_0 (f nn : Nat → Nat) (t : Nat) : kf2 f nn (t * 2) = .int .u32 (f t : Int) := by
  unfold kf2
  rw [if_pos (by omega), show t * 2 / 2 = t by omega]
theorem kf2_1 (f nn : Nat → Nat) (t : Nat) : kf2 f nn (t * 2 + 1) = .int .u64 (nn t : Int) := by
  unfold kf2
  rw [if_neg (by omega), show (t * 2 + 1) / 2 = t by omega]

set_option maxRecDepth 100000 in
/-- slices.Index at link keys -/
theorem index21 (B n x y : Nat) (f nn : Nat → Nat) (v : Value) (w : World) (hv : Vec w B 65 2 v n (kf2 f nn)) (hn : n ≤ 4096) :
    Calls Yba.prog 21 #[v, lv x y] w fun r w' => (((∃ i, i < n ∧ f i = x ∧ nn i = y) ∧ ∃ k : Nat, r = .returned (.int .i64 (k : Int))) ∨ ((∀ i, i < n → ¬ (f i = x ∧ nn i = y)) ∧ r = .returned (.int .i64 (-1)))) ∧ Below w.heap.size w w' := by
  obtain ⟨ao, cp, rfl, hao⟩ := vec_slice hv
  unfold lv
  go_enter Yba.func21, Yba.ntmps21
  go_wp2_with fail
  go_loopw [8, 5] (fun i _ wr => ∃ t : Nat, t ≤ n ∧ i = .int .i64 t ∧ (∀ j, j < t → ¬ (f j = x ∧ nn j = y)) ∧ ∃ q, (w.alloc (.cells #[.int .u32 (x : Int), .int .u64 (y : Int)] 65)).drewN q = wr) (fun i _ _ => n - (intOf i).toNat)
  case atStart => exact ⟨0, by omega, rfl, fun j hj => by omega, 0, rfl⟩
  case round =>
    obtain ⟨t, ht, rfl, hno, q, rfl⟩ := hrel
    by_cases htn : t < n
    · obtain ⟨g, rfl⟩ := hao (by omega)
      have hv1 := hv.alloc (.cells #[.int .u32 (x : Int), .int .u64 (y : Int)] 65)
      have c0 : (w.alloc (.cells #[.int .u32 (x : Int), .int .u64 (y : Int)] 65)).cell? ⟨g, t * 2, none⟩ = some (.int .u32 (f t : Int)) := by rw [← kf2_0 f nn t]; exact hv1.cell (by omega)
      have c1 : (w.alloc (.cells #[.int .u32 (x : Int), .int .u64 (y : Int)] 65)).cell? ⟨g, t * 2 + 1, none⟩ = some (.int .u64 (nn t : Int)) := by rw [← kf2_1 f nn t]; exact hv1.cell (by omega)
      have hgl : g < w.heap.size := hv.lt
      clear hv1
      by_cases he : f t = x ∧ nn t = y
      · have e1 : ((x : Int) = (f t : Int)) = True := by simp [he.1]
        have e2 : ((y : Int) = (nn t : Int)) = True := by simp [he.2]
        have HE := hid he
        clear hv hao hno he
        go_upto_region 4 with fail
        go_region
        go_wp2
        go_ret
        exact ⟨.inl ⟨⟨t, htn, HE.out⟩, t, rfl⟩, below_drewN ((Below.refl _ _).alloc (Nat.le_refl _) _) _⟩
      · have HNO : Hid (∀ j, j < t + 1 → ¬ (f j = x ∧ nn j = y)) := fun j hj e2 => by
          by_cases h : j = t
          · exact he (by rw [← h]; exact e2)
          · exact hno j (by omega) e2
        clear hno
        by_cases h1 : f t = x
        · have e1 : ((x : Int) = (f t : Int)) = True := by simp [h1]
          have e2 : ((y : Int) = (nn t : Int)) = False := by simp; exact fun h2 => he ⟨h1, by omega⟩
          clear he h1
          go_upto_region 4 with fail
          go_region
          go_wp2
          go_roundw
          case rel => exact ⟨t + 1, by omega, by go_num, HNO.out, _, rfl⟩
          case measure => simp [intOf]; omega
        · have e1 : ((x : Int) = (f t : Int)) = False := by simp; omega
          clear he h1
          go_upto_region 4 with fail
          go_region
          go_wp2
          go_roundw
          case rel => exact ⟨t + 1, by omega, by go_num, HNO.out, _, rfl⟩
          case measure => simp [intOf]; omega
    · obtain rfl : t = n := by omega
      have HNO := hid hno
      clear hno
      go_wp2
      go_ret
      exact ⟨.inr ⟨HNO.out, rfl⟩, below_drewN ((Below.refl _ _).alloc (Nat.le_refl _) _) _⟩

set_option maxRecDepth 100000 in
/-- slices.Contains at link keys -/
theorem contains14 (B n x y : Nat) (f nn : Nat → Nat) (v : Value) (w : World) (hv : Vec w B 65 2 v n (kf2 f nn)) (hn : n ≤ 4096) :
    Calls Yba.prog 14 #[v, lv x y] w fun r w' => (((∃ i, i < n ∧ f i = x ∧ nn i = y) ∧ r = .returned (.bool true)) ∨ ((∀ i, i < n → ¬ (f i = x ∧ nn i = y)) ∧ r = .returned (.bool false))) ∧ Below w.heap.size w w' := by
  have HI := hid (index21 B n x y f nn v (w.alloc (.cells #[.int .u32 (x : Int), .int .u64 (y : Int)] 65)) (hv.alloc _) hn)
  obtain ⟨ao, cp, rfl, _⟩ := vec_slice hv
  unfold lv at HI ⊢
  clear hv
  go_enter Yba.func14, Yba.ntmps14
  go_wp2_with (go_at_call 21; refine HI.out.mono ?_; rintro r w1 ⟨h1, hb⟩; rcases h1 with ⟨hex, k, rfl⟩ | ⟨hno, rfl⟩)
  · go_ret
    exact ⟨.inl ⟨hex, by simp⟩, ((Below.refl w.heap.size w).alloc (Nat.le_refl _) _).trans (hb.mono (by rw [Deep.nblk_alloc]; omega))⟩
  · go_ret
    exact ⟨.inr ⟨hno, by simp⟩, ((Below.refl w.heap.size w).alloc (Nat.le_refl _) _).trans (hb.mono (by rw [Deep.nblk_alloc]; omega))⟩
end Go.Proofs.Ybulkgbai
