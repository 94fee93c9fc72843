import Derived.Test.YbulkgahmDoorClone
namespace Go.Proofs.YbulkgahmDoor
open Go.RowKit Go.Zz

theorem Ybad.info31 : (Ybad.prog.info? 31).map (fun i => (i.zero, i.size, i.bytes)) = some (some (.agg #[.int .i64 0, .int .u8 0, .slice none 0 0]), 3, 40) := by kernel_rfl
theorem Ybad.info29 : (Ybad.prog.info? 29).map (fun i => (i.zero, i.size, i.bytes)) = some (some (.slice none 0 0), 1, 24) := by kernel_rfl

/-- the cells of the transactions: the first k bear their index -/
def txF (ix : Nat → Int) (V : Nat → Value) (k : Nat) : Nat → Value := fun j => match j % 3 with
  | 0 => .int .i64 (if j / 3 < k then ix (j / 3) else 0)
  | 1 => .int .u8 0
  | _ => V (j / 3)

theorem txF0 (ix : Nat → Int) (V : Nat → Value) (k i : Nat) : txF ix V k (i * 3) = .int .i64 (if i < k then ix i else 0) := by
  unfold txF
  rw [show i * 3 % 3 = 0 by omega, show i * 3 / 3 = i by omega]
  rfl
theorem txF2 (ix : Nat → Int) (V : Nat → Value) (k i : Nat) : txF ix V k (i * 3 + 2) = V i := by
  unfold txF
  rw [show (i * 3 + 2) % 3 = 2 by omega, show (i * 3 + 2) / 3 = i by omega]
  rfl

theorem mod3 (j : Nat) : j % 3 = 0 ∨ j % 3 = 1 ∨ j % 3 = 2 := by omega

theorem tx_start (w : World) (ix : Nat → Int) (n : Nat) : (w.alloc (.cells (madeCells #[.int .i64 0, .int .u8 0, .slice none 0 0] (n * 3)) 31)).rowIs w.heap.size 31 (n * 3) (txF ix (fun _ => .slice none 0 0) 0) := by
  refine (rowIs_madeN w _ (n * 3) 31).congr fun j hj => ?_
  unfold txF
  rcases mod3 j with h | h | h <;> simp [h]

theorem tx_index {wr : World} {tb n : Nat} {ix : Nat → Int} {V : Nat → Value} {k : Nat} (h : wr.rowIs tb 31 (n * 3) (txF ix V k)) : (wr.setCell ⟨tb, k * 3, none⟩ (.int .i64 (ix k))).rowIs tb 31 (n * 3) (txF ix V (k + 1)) := by
  refine (h.set (k * 3) _).congr fun j hj => ?_
  by_cases e : j = k * 3
  · subst e
    rw [if_pos rfl, txF0, if_pos (by omega)]
  · rw [if_neg e]
    unfold txF
    rcases mod3 j with h | h | h
    · simp only [h]
      by_cases h1 : j / 3 < k
      · rw [if_pos h1, if_pos (by omega)]
      · rw [if_neg h1, if_neg (by omega)]
    · simp only [h]
    · simp only [h]

def upd {α : Type} (V : Nat → α) (t : Nat) (v : α) : Nat → α := fun i => if i = t then v else V i
theorem upd_same {α : Type} (V : Nat → α) (t : Nat) (v : α) : upd V t v t = v := by simp [upd]
theorem upd_other {α : Type} (V : Nat → α) (t : Nat) (v : α) {i : Nat} (h : i ≠ t) : upd V t v i = V i := by simp [upd, h]

theorem tx_ops {wr : World} {tb n : Nat} {ix : Nat → Int} {V : Nat → Value} {k t : Nat} {v : Value} (h : wr.rowIs tb 31 (n * 3) (txF ix V k)) : (wr.setCell ⟨tb, t * 3 + 2, none⟩ v).rowIs tb 31 (n * 3) (txF ix (upd V t v) k) := by
  refine (h.set (t * 3 + 2) _).congr fun j hj => ?_
  by_cases e : j = t * 3 + 2
  · subst e
    rw [if_pos rfl, txF2, upd_same]
  · rw [if_neg e]
    unfold txF
    rcases mod3 j with h | h | h
    · simp only [h]
    · simp only [h]
    · simp only [h]
      exact (upd_other V t v (by omega)).symm

/-- the transactions while their operations are being laid: w is the world before -/
structure Inv (w wr : World) (tb n : Nat) (ix : Nat → Int) (V : Nat → Value) (cnt : Nat → Nat) (F : Nat → Nat → OpV) : Prop where
  row : wr.rowIs tb 31 (n * 3) (txF ix V n)
  vec : ∀ i, i < n → Vec wr w.heap.size 35 4 (V i) (cnt i) (opF (F i))
  apart : ∀ i j, i < n → j < n → i ≠ j → ∀ b, (V i).ownBlock = some b → (V j).ownBlock ≠ some b
  bel : Below w.heap.size w wr
  htb : w.heap.size ≤ tb

/-- a row of another type is another block -/
theorem vec_ne {w : World} {B : Nat} {e T : TypeId} {size : Nat} {v : Value} {n : Nat} {f g : Nat → Value} {b m : Nat} (hv : Vec w B e size v n f) (hr : w.rowIs b T m g) (hTe : T ≠ e) : v.ownBlock ≠ some b := by
  rcases hv.2 with ⟨h1, _⟩ | ⟨c, cap, cur, h1, h2, h3, _⟩
  · rw [h1]; simp [Value.ownBlock]
  · intro hb
    rw [h1] at hb
    simp only [Value.ownBlock, Option.some.injEq] at hb
    subst hb
    obtain ⟨cs, hc, _⟩ := hr
    rw [h3] at hc
    simp only [Option.some.injEq, Obj.cells.injEq] at hc
    exact hTe hc.2.1.symm

theorem Inv.drew {w wr : World} {tb n : Nat} {ix : Nat → Int} {V : Nat → Value} {cnt : Nat → Nat} {F : Nat → Nat → OpV} (h : Inv w wr tb n ix V cnt F) : Inv w wr.drew tb n ix V cnt F :=
  ⟨h.row, h.vec, h.apart, h.bel.drew, h.htb⟩

/-- the operations behind an append -/
def appOp (F : Nat → OpV) (m : Nat) (o : OpV) : Nat → OpV := fun j => if j = m then o else F j

theorem opF_app_lt (F : Nat → OpV) (m : Nat) (o : OpV) (j : Nat) (hj : j < m * 4) : opF (appOp F m o) j = opF F j := by
  unfold opF appOp
  rw [if_neg (by omega)]

theorem mod4 (j : Nat) : j % 4 = 0 ∨ j % 4 = 1 ∨ j % 4 = 2 ∨ j % 4 = 3 := by omega

/-- one append into the operations of transaction t: the equation of append, and what is behind the store of its value -/
theorem inv_app {w wr : World} {tb n : Nat} {ix : Nat → Int} {V : Nat → Value} {cnt : Nat → Nat} {F : Nat → Nat → OpV} (h : Inv w wr tb n ix V cnt F) (t : Nat) (ht : t < n) (o : OpV) (hc : cnt t ≤ 1048576) :
    ∃ (b cap : Nat) (w' : World), (Builtin.append_ #[29, 29] 29 #[V t, .slice (some ⟨wr.heap.size, 0, none⟩) 1 1]).run Ybad.prog (wr.alloc (.cells #[.bool o.wr, .int .i64 o.key, .int .i64 o.val, .bool o.nl] 35)) = .ok (.slice (some ⟨b, 0, none⟩) (cnt t + 1) cap) w' ∧
      w'.cell? ⟨tb, t * 3 + 2, none⟩ = some (V t) ∧ w'.frozen? ⟨tb, t * 3 + 2, none⟩ = false ∧ (∀ (k : Nat) (cs : Array Value) (T : TypeId) (fr : Nat × Nat), T ≠ 35 → wr.heap[k]? = some (.cells cs T fr) → w'.heap[k]? = some (.cells cs T fr)) ∧
      Inv w (w'.setCell ⟨tb, t * 3 + 2, none⟩ (.slice (some ⟨b, 0, none⟩) (cnt t + 1) cap)) tb n ix (upd V t (.slice (some ⟨b, 0, none⟩) (cnt t + 1) cap)) (upd cnt t (cnt t + 1)) (upd F t (appOp (F t) (cnt t) o)) := by
  have hsz := h.bel.size
  have hv := (h.vec t ht).alloc (.cells #[.bool o.wr, .int .i64 o.key, .int .i64 o.val, .bool o.nl] 35)
  have hnew : (wr.alloc (.cells #[.bool o.wr, .int .i64 o.key, .int .i64 o.val, .bool o.nl] 35)).rowIs wr.heap.size 35 4 (opF (fun _ => o)) := by
    refine ⟨_, Deep.blk_alloc_new _ _, rfl, fun i hi => ?_⟩
    match i, hi with
    | 0, _ => rfl
    | 1, _ => rfl
    | 2, _ => rfl
    | 3, _ => rfl
  obtain ⟨b, cap, w', hrun, hV, hgr, hat, hBb⟩ := run_append_vec Ybad.prog _ w.heap.size 29 29 35 _ 4 32 Ybad.underlying29 Ybad.info35 rfl (by decide) (V t) (cnt t) (opF (F t)) hv ⟨wr.heap.size, 0, none⟩ 1 1 (by decide) (opF (fun _ => o)) (opF (appOp (F t) (cnt t) o))
    (fun j hj => by rw [add_zero_plain]; exact hnew.cell (by omega)) (fun j _ => opF_one _ j) (fun j hj => opF_app_lt _ _ _ j hj)
    (fun j hj => by
      unfold opF appOp
      have e1 : (cnt t * 4 + j) % 4 = j % 4 := by omega
      have e2 : (cnt t * 4 + j) / 4 = cnt t := by omega
      rw [e1, e2, if_pos rfl]) (by unfold maxLen; omega) (by omega) (by rw [Deep.nblk_alloc]; omega)
  have hrowa := h.row.alloc (.cells #[.bool o.wr, .int .i64 o.key, .int .i64 o.val, .bool o.nl] 35)
  have hne := vec_ne hv hrowa (by decide)
  have hrow' : w'.rowIs tb 31 (n * 3) (txF ix V n) := rowIs_grown hrowa hgr (fun e => hne e.symm)
  refine ⟨b, cap, w', hrun, ?_, hrow'.frozen _, ?_, ?_⟩
  · rw [hrow'.cell (by omega), txF2]
  · intro k cs T fr hT hk
    have hlt := lt_of_heap hk
    rw [hgr.block k (by rw [Deep.nblk_alloc]; omega) (fun e => ?_), Deep.blk_alloc_lt _ _ _ hlt]
    · exact hk
    · rcases (h.vec t ht).2 with ⟨h1, _⟩ | ⟨c, cp, cur, h1, _, h3, _⟩
      · rw [h1] at e; simp [Value.ownBlock] at e
      · rw [h1] at e
        simp only [Value.ownBlock, Option.some.injEq] at e
        subst e
        rw [hk] at h3
        simp only [Option.some.injEq, Obj.cells.injEq] at h3
        exact hT h3.2.1
  · have hkey : ∀ i, i < n → i ≠ t → ∀ c, (V i).ownBlock = some c → c ≠ b := by
      intro i hi hit c hcc hcb
      subst hcb
      rcases hat with h' | h'
      · exact h.apart t i ht hi (fun e => hit e.symm) _ h' hcc
      · rcases (h.vec i hi).shape with ⟨h1, _⟩ | ⟨g, cp, h1, _, hg, _⟩
        · rw [h1] at hcc; simp [Value.ownBlock] at hcc
        · rw [h1] at hcc
          simp only [Value.ownBlock, Option.some.injEq] at hcc
          rw [Deep.nblk_alloc] at h'
          omega
    refine ⟨tx_ops hrow', ?_, ?_, ?_, h.htb⟩
    · intro i hi
      by_cases e : i = t
      · subst e
        rw [upd_same, upd_same, upd_same]
        refine hV.setOther ?_ _
        intro e
        have h2 := vec_ne hV hrow' (by decide)
        exact h2 (by rw [e]; rfl)
      · rw [upd_other _ _ _ e, upd_other _ _ _ e, upd_other _ _ _ e]
        have hvi : Vec w' w.heap.size 35 4 (V i) (cnt i) (opF (F i)) := by
          refine ((h.vec i hi).alloc _).kept hgr ?_
          cases hob : (V i).ownBlock with
          | none => exact .inl rfl
          | some c => exact .inr (fun e2 => h.apart i t hi ht e c hob e2.symm)
        have h2 := vec_ne hvi hrow' (by decide)
        rcases hvi.shape with ⟨h1, h1'⟩ | ⟨g, cp, h1, _⟩
        · rw [h1, h1']
          exact Vec.nil _ _ _ _ _
        · rw [h1] at hvi h2 ⊢
          exact hvi.setOther (fun e => h2 (by rw [e]; rfl)) _
    · intro i j hi hj hij c hci
      by_cases e : i = t
      · subst e
        rw [upd_same] at hci
        simp only [Value.ownBlock, Option.some.injEq] at hci
        rw [upd_other _ _ _ (fun e => hij e.symm)]
        intro hcj
        exact hkey j hj (fun e => hij e.symm) c hcj hci.symm
      · rw [upd_other _ _ _ e] at hci
        by_cases e2 : j = t
        · subst e2
          rw [upd_same]
          intro hcj
          simp only [Value.ownBlock, Option.some.injEq] at hcj
          exact hkey i hi e c hci hcj.symm
        · rw [upd_other _ _ _ e2]
          exact h.apart i j hi hj hij c hci
    · refine ((h.bel.alloc (by omega) _).grown hgr (by rw [Deep.nblk_alloc]; omega) (fun k hk => ?_)).setCell (p := ⟨tb, t * 3 + 2, none⟩) h.htb _
      exact (World.ownsRow.lt hv k hk).1

/-- append at a step of a region that draws its order, by an equation that is at hand -/
theorem step_append_run {P : Program} {w : World} {ops : Array Oper} {o : Oper} {a : Act} {K : Act → World → Prop} {Q : Exit → Act → World → Prop} {E : Prop} (hgd : o.guard = none) (s x : Operand) (t ty : TypeId)
    (ho : o.op = .call { callee := .builtin .append, args := #[s, x], argTypes := #[t, t] }) (hty : o.type = ty) {v src v' : Value} {w' : World} (hs : a.eval s = v) (hx : a.eval x = src)
    (hrun : (Builtin.append_ #[t, t] ty #[v, src]).run P w = .ok v' w') (h : K (a.put o.dst v') w') : if Region.wanted o (yielded ops a.tmps) = true then Oper.wp P o a w K Q else E := by
  have hw : Region.wanted o (yielded ops a.tmps) = true := by simp [Region.wanted, hgd]
  rw [if_pos hw]
  subst hty
  unfold Oper.wp execOp
  simp only [ho, resolve, invoke, builtin, Sem.run_bind, Sem.run_pure, Result.andThen_ok, List.map_toArray, List.map_cons, List.map_nil, hs, hx, hrun]
  exact h

end Go.Proofs.YbulkgahmDoor
