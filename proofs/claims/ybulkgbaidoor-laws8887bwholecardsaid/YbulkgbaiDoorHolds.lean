import Derived.Test.YbulkgbaiDoorHold
namespace Go.Proofs.YbulkgbaiDoor
open Go.RowKit Go.Zz Go.Maps

/-- the copies between two calls: k links, j messages -/
structure Cs (w : World) (B eb : Nat) (e : EV) (o k j : Nat) : Prop where
  hE : E w eb e
  hB : B ≤ eb
  words : e.words = wordsOf k
  slots : Vec w B 33 1 e.slots (wordsOf k) (fun i => .int .u64 (slotW k i : Int))
  dis : ∀ b, e.slots.ownBlock = some b → e.bits.ownBlock ≠ some b
  rm : RM w e.rm o j
  hrm : B ≤ e.rm
  rest : ((0 < k ∨ j = 0) ∧ (∃ f, Vec w B 33 1 e.bits (j * wordsOf k) f) ∧ e.free = .slice none 0 0) ∨
    (k = 0 ∧ 0 < j ∧ (∃ bb cap, e.bits = .slice (some ⟨bb, 0, none⟩) 1 cap ∧ Vec w B 33 1 e.bits 1 (fun _ => .int .u64 0)) ∧ ∃ fb fc, e.free = .slice (some ⟨fb, 0, none⟩) 1 fc ∧ Vec w B 3 1 e.free 1 (fun _ => .int .i64 0))

/-- what a call of hold may write -/
def own (eb : Nat) (e : EV) : List Nat := eb :: e.rm :: (e.bits.ownBlock.toList ++ e.free.ownBlock.toList)

def After (w w' : World) (B eb : Nat) (e : EV) (o k j : Nat) : Prop := ∃ e', Cs w' B eb e' o k (j + 1) ∧ e' = { e with bits := e'.bits, free := e'.free } ∧ Kept (own eb e) w w'

theorem kc_row (w : World) (o s : Nat) : (w.alloc (.cells #[.int .u64 (o : Int), .int .u64 (s : Int)] 70)).rowIs w.heap.size 70 2 (kf o s) :=
  ⟨_, Deep.blk_alloc_new _ _, rfl, fun i hi => by rcases i with _ | _ | i <;> first | rfl | omega⟩

theorem vec_vec_ne {w : World} {B B' n n' size size' : Nat} {t t' : TypeId} {v v' : Value} {f f' : Nat → Value} (hv : Vec w B t size v n f) (hv' : Vec w B' t' size' v' n' f') (h : t ≠ t') (b : Nat) (hb : v.ownBlock = some b) : v'.ownBlock ≠ some b := by
  intro hb'
  rcases hv.2 with ⟨h1, _⟩ | ⟨c, cap, cur, h1, h2, h3, _⟩
  · rw [h1] at hb; simp [Value.ownBlock] at hb
  rcases hv'.2 with ⟨h1', _⟩ | ⟨c', cap', cur', h1', h2', h3', _⟩
  · rw [h1'] at hb'; simp [Value.ownBlock] at hb'
  rw [h1] at hb
  rw [h1'] at hb'
  simp only [Value.ownBlock, Option.some.injEq] at hb hb'
  rw [hb] at h3
  rw [hb', h3] at h3'
  simp only [Option.some.injEq, Obj.cells.injEq] at h3'
  exact h h3'.2.1

theorem slotW_pos {k : Nat} (hk : 0 < k) : 0 < slotW k 0 := by
  unfold slotW
  have : ∀ c, c < 65 → 0 < c → 0 < ones c := by decide +kernel
  exact this _ (by omega) (by omega)

theorem hold_pos (eb B o k j : Nat) (e : EV) (w : World) (h : Cs w B eb e o k j) (hk0 : 0 < k) (hk : k ≤ 300) (hj : j ≤ 60) (ho : o < 18446744073709551616) (_ : B ≤ w.heap.size) :
    Calls Ybad.prog 17 #[.pointer (some ⟨eb, 5, none⟩), kv o (j + 1), .int .i64 (-1)] w fun x w' => x = .returned (.int .i64 (k : Int)) ∧ After w w' B eb e o k j := by
  have hW0 := wordsOf_pos k
  have hW5 := wordsOf_le hk
  rcases h.rest with ⟨_, ⟨f, hV⟩, hfree⟩ | ⟨h0, _⟩
  rotate_left
  · omega
  have hNb : j * wordsOf k ≤ 300 := Nat.le_trans (Nat.mul_le_mul hj hW5) (by omega)
  have hro := rowOf_new eb B o j j (wordsOf k) (j * wordsOf k) 0 none e (w.alloc (.cells #[.int .u64 (o : Int), .int .u64 ((j + 1 : Nat) : Int)] 70)) f (h.hE.alloc _) h.hB hfree h.words hW0 (by omega) rfl (by omega) (hV.alloc _) (h.rm.of_block (Deep.blk_alloc_lt _ _ _ h.rm.lt)) ho (by omega)
  refine hold_gen eb B o (j + 1) k j (j * wordsOf k) (j * wordsOf k + wordsOf k) w (fun i => if i < j * wordsOf k then f i else .int .u64 0)
    (fun w' e1 bb cap => e1 = { e with bits := .slice (some ⟨bb, 0, none⟩) (j * wordsOf k + wordsOf k) cap } ∧ (e.bits.ownBlock = some bb ∨ w.heap.size ≤ bb) ∧ RM w' e.rm o (j + 1) ∧ Kept (own eb e) w w' ∧ bb ≠ e.rm)
    _ hk (by omega) rfl rfl (fun q hq => if_neg (by omega)) ?_ ?_ ?_ ?_
  · refine hro.mono ?_
    rintro x w' ⟨rfl, bb, cap, hE', hV', hbb, hM', hK'⟩
    have hk1 : Kept (own eb e) w w' := ((Kept.refl _ w).alloc _).step hK' (fun b hb => by
      refine .inl ?_
      unfold own
      simp only [List.mem_cons, List.mem_append] at hb ⊢
      rcases hb with h | h | h
      · exact .inl h
      · exact .inr (.inl h)
      · exact .inr (.inr (.inl h)))
    have hbb' : e.bits.ownBlock = some bb ∨ w.heap.size < bb := hbb.imp id (fun h => by rw [Deep.nblk_alloc] at h; omega)
    have hcap : j * wordsOf k + wordsOf k ≤ cap := by
      rcases hV'.shape with ⟨h1, _⟩ | ⟨_, _, h1, _, _, h2, _⟩
      · cases h1
      · simp only [Value.slice.injEq] at h1
        omega
    have hnb : e.slots.ownBlock ≠ some bb := by
      intro hs
      rcases hbb' with h1 | h1
      · exact h.dis bb hs h1
      · have := (World.ownsRow.lt h.slots bb hs).2
        omega
    have hnk : w.heap.size ∉ own eb e := by
      unfold own
      intro hm
      simp only [List.mem_cons, List.mem_append, hfree] at hm
      rcases hm with h1 | h1 | h1 | h1
      · have := World.rowIs.lt h.hE; omega
      · have := h.rm.lt; omega
      · have := (World.ownsRow.lt hV w.heap.size (by simpa using h1)).2; omega
      · simp [Value.ownBlock] at h1
    have hsk : ∀ b, e.slots.ownBlock = some b → b ∉ own eb e := by
      intro b hb hm
      unfold own at hm
      simp only [List.mem_cons, List.mem_append, hfree] at hm
      rcases hm with h1 | h1 | h1 | h1
      · exact vec_ne h.slots h.hE (by decide) (by rw [hb, h1])
      · exact rm_vec h.rm h.slots (by rw [hb, h1])
      · exact h.dis b hb (by simpa using h1)
      · simp [Value.ownBlock] at h1
    refine ⟨rfl, _, bb, cap, hE', rfl, hcap, hV', h.words, hk1.vec h.slots hsk, hnb, ?_, rfl, hbb'.imp id (fun h => by omega), hM', hk1, ?_⟩
    · exact hK'.row (kc_row w o (j + 1)) (fun hm => hnk (by
        unfold own
        simp only [List.mem_cons, List.mem_append] at hm ⊢
        rcases hm with h | h | h
        · exact .inl h
        · exact .inr (.inl h)
        · exact .inr (.inr (.inl h))))
    · rcases hbb' with h1 | h1
      · exact fun e1 => rm_vec h.rm hV (by rw [h1, e1])
      · have := h.rm.lt; omega
  · rintro w' e1 bb cap i v ⟨h1, h2, h3, h4, h5⟩
    refine ⟨h1, h2, h3.of_block (Deep.blk_setCell_other _ _ _ _ (fun h => h5 h.symm)), h4.setCell ?_ _, h5⟩
    rcases h2 with h2 | h2
    · exact .inl (by unfold own; simp [h2])
    · exact .inr h2
  · rintro w' e1 bb cap q ⟨h1, h2, h3, h4, h5⟩
    exact ⟨h1, h2, h3, h4.drewN q, h5⟩
  · rintro w' ⟨e1, bb, cap, hE', hbits, hcap, hV', hw', hS', hnb, hkr, h1, h2, h3, h4, h5⟩
    have hx : w'.cell? ⟨bb, j * wordsOf k, none⟩ = some (.int .u64 (slotW k 0 : Int)) := by
      rw [hV'.cell (by omega)]
      unfold fillTo
      rw [if_pos (by omega), Nat.sub_self]
    refine (release_stay eb o (j + 1) e1 w' bb _ cap (wordsOf k) j (j + 1) (j * wordsOf k) (j * wordsOf k + wordsOf k) (slotW k 0) hE' hbits hw' rfl rfl (by rw [Nat.succ_mul]) hW0 hcap (by omega) (by omega) hx (slotW_pos hk0) hV'.lt).mono ?_
    rintro x w'' ⟨rfl, hb⟩
    have hbk : Kept [] w' w'' := Kept.of_below hb
    refine ⟨rfl, e1, ⟨hbk.row hE' (by simp), h.hB, hw', hbk.vec hS' (by simp), ?_, ?_, ?_, .inl ⟨.inl hk0, ?_, ?_⟩⟩, by rw [h1], h4.step hbk (by simp)⟩
    · intro b hb1 hb2
      rw [hbits] at hb2
      simp only [Value.ownBlock, Option.some.injEq] at hb2
      exact hnb (by rw [hb1, hb2])
    · rw [h1]
      exact h3.of_block (hbk.block _ h3.lt (by simp))
    · rw [h1]; exact h.hrm
    · refine ⟨fillTo k (j * wordsOf k) (wordsOf k) (fun i => if i < j * wordsOf k then f i else .int .u64 0), ?_⟩
      rw [hbits, Nat.succ_mul]
      exact hbk.vec hV' (by simp)
    · rw [h1]; exact hfree


theorem words0 : wordsOf 0 = 1 := rfl
theorem slotW0 (i : Nat) : slotW 0 i = 0 := by
  unfold slotW
  rw [show min 64 (0 - 64 * i) = 0 by omega]
  rfl

/-- what hold leaves behind its release, no link at all -/
theorem zero_end (eb B o j bb cap : Nat) (e e1 : EV) (w w' : World) (fa : Option Addr) (fc : Nat) (h : Cs w B eb e o 0 j) (_ : B ≤ w.heap.size) (ho : o < 18446744073709551616) (hj : j ≤ 60) (g : Nat → Value)
    (hE' : E w' eb e1) (hbits : e1.bits = .slice (some ⟨bb, 0, none⟩) 1 cap) (hcap : 1 ≤ cap) (hV' : Vec w' B 33 1 (.slice (some ⟨bb, 0, none⟩) 1 cap) 1 g) (hg : g 0 = .int .u64 0) (hw' : e1.words = 1)
    (hS' : Vec w' B 33 1 e1.slots 1 (fun i => .int .u64 (slotW 0 i : Int))) (hnb : e1.slots.ownBlock ≠ some bb) (he1 : e1 = { e with bits := e1.bits, free := e1.free }) (hM' : RM w' e.rm o (j + 1)) (hK : Kept (own eb e) w w')
    (hfree : e1.free = .slice fa 0 fc) (hF : Vec w' B 3 1 e1.free 0 (fun _ => .int .i64 0)) (hfb : ∀ b, e1.free.ownBlock = some b → e.free.ownBlock = some b ∨ w.heap.size ≤ b) (hbm : bb ≠ e.rm) :
    Calls Ybad.prog 25 #[.pointer (some ⟨eb, 5, none⟩), kv o (j + 1), .int .i64 0] w' fun x w'' => x = .returned (.tuple #[]) ∧ After w w'' B eb e o 0 j := by
  have hrm1 : e1.rm = e.rm := by rw [he1]
  have hx : w'.cell? ⟨bb, 0, none⟩ = some (.int .u64 0) := by rw [hV'.cell (by omega), hg]
  refine (release_free eb B o (j + 1) (j + 1) e1 w' bb 1 cap fc fa hE' h.hB hbits hw' hcap hx hV'.lt (by rw [hrm1]; exact hM') ho (by omega) hfree hF).mono ?_
  rintro x w'' ⟨rfl, fb, fc', hE2, hF2, hM2, hK2⟩
  rw [hrm1] at hM2 hK2
  have hbb : bb ∉ eb :: e.rm :: e1.free.ownBlock.toList := by
    intro hm
    simp only [List.mem_cons] at hm
    rcases hm with h1 | h1 | h1
    · exact vec_tag hV' hE' (by decide) h1
    · exact hbm h1
    · exact vec_vec_ne hF hV' (by decide) bb (by simpa using h1) rfl
  have hsn : ∀ b, e1.slots.ownBlock = some b → b ∉ eb :: e.rm :: e1.free.ownBlock.toList := by
    intro b hb hm
    simp only [List.mem_cons] at hm
    rcases hm with h1 | h1 | h1
    · exact vec_ne hS' hE' (by decide) (by rw [hb, h1])
    · exact rm_vec hM' hS' (by rw [hb, h1])
    · exact vec_vec_ne hF hS' (by decide) b (by simpa using h1) hb
  refine ⟨rfl, { e1 with free := .slice (some ⟨fb, 0, none⟩) 1 fc' }, ⟨hE2, h.hB, hw', hK2.vec hS' hsn, ?_, by rw [hrm1]; exact hM2, by rw [hrm1]; exact h.hrm, .inr ⟨rfl, by omega, ⟨bb, cap, hbits, ?_⟩, fb, fc', rfl, hF2⟩⟩, ?_, hK.step hK2 ?_⟩
  · intro b hb1 hb2
    simp only [hbits, Value.ownBlock, Option.some.injEq] at hb2
    exact hnb (by rw [hb1, hb2])
  · rw [hbits]
    exact (hK2.vec hV' (fun b hb => by simp only [Value.ownBlock, Option.some.injEq] at hb; rw [← hb]; exact hbb)).congr (fun q hq => by (obtain rfl : q = 0 := by omega); exact hg)
  · rw [he1]
  · intro b hm
    simp only [List.mem_cons] at hm
    rcases hm with h1 | h1 | h1
    · exact .inl (by unfold own; simp [h1])
    · exact .inl (by unfold own; simp [h1])
    · exact (hfb b (by simpa using h1)).imp (fun h2 => by unfold own; simp [h2]) id

/-- no link at all -/
theorem hold_zero (eb B o j : Nat) (e : EV) (w : World) (h : Cs w B eb e o 0 j) (hj : j ≤ 60) (ho : o < 18446744073709551616) (hBw : B ≤ w.heap.size) :
    Calls Ybad.prog 17 #[.pointer (some ⟨eb, 5, none⟩), kv o (j + 1), .int .i64 (-1)] w fun x w' => x = .returned (.int .i64 0) ∧ After w w' B eb e o 0 j := by
  have hlt := World.rowIs.lt h.hE
  have hsk0 : ∀ b, e.slots.ownBlock = some b → b ≠ eb ∧ b ≠ e.rm := fun b hb => ⟨fun h1 => vec_ne h.slots h.hE (by decide) (by rw [hb, h1]), fun h1 => rm_vec h.rm h.slots (by rw [hb, h1])⟩
  rcases h.rest with ⟨h0, ⟨f, hV⟩, hfree⟩ | ⟨_, hj0, ⟨bb, cap, hbits, hV⟩, fb, fc, hfree, hF⟩
  · obtain rfl : j = 0 := by omega
    rw [Nat.zero_mul] at hV
    have hro := rowOf_new eb B o 0 0 1 0 0 none e (w.alloc (.cells #[.int .u64 (o : Int), .int .u64 ((0 + 1 : Nat) : Int)] 70)) f (h.hE.alloc _) h.hB hfree h.words (by omega) (by omega) rfl (by omega) (hV.alloc _) (h.rm.of_block (Deep.blk_alloc_lt _ _ _ h.rm.lt)) ho (by omega)
    refine hold_gen eb B o (0 + 1) 0 0 0 1 w (fun i => if i < 0 then f i else .int .u64 0)
      (fun w' e1 bb cap => e1 = { e with bits := .slice (some ⟨bb, 0, none⟩) 1 cap } ∧ (e.bits.ownBlock = some bb ∨ w.heap.size ≤ bb) ∧ RM w' e.rm o (0 + 1) ∧ Kept (own eb e) w w' ∧ bb ≠ e.rm)
      _ (by omega) (by omega) rfl rfl (fun q hq => if_neg (by omega)) ?_ ?_ ?_ ?_
    · refine hro.mono ?_
      rintro x w' ⟨rfl, bb, cap, hE', hV', hbb, hM', hK'⟩
      have hsub : ∀ b, b ∈ eb :: e.rm :: e.bits.ownBlock.toList → b ∈ own eb e := fun b hb => by
        unfold own
        simp only [List.mem_cons, List.mem_append] at hb ⊢
        rcases hb with h | h | h
        · exact .inl h
        · exact .inr (.inl h)
        · exact .inr (.inr (.inl h))
      have hk1 : Kept (own eb e) w w' := ((Kept.refl _ w).alloc _).step hK' (fun b hb => .inl (hsub b hb))
      have hbb' : e.bits.ownBlock = some bb ∨ w.heap.size < bb := hbb.imp id (fun h => by rw [Deep.nblk_alloc] at h; omega)
      have hcap : 1 ≤ cap := by
        rcases hV'.shape with ⟨h1, _⟩ | ⟨_, _, h1, _, _, h2, _⟩
        · cases h1
        · simp only [Value.slice.injEq] at h1
          omega
      have hnb : e.slots.ownBlock ≠ some bb := by
        intro hs
        rcases hbb' with h1 | h1
        · exact h.dis bb hs h1
        · have := (World.ownsRow.lt h.slots bb hs).2
          omega
      have hnk : w.heap.size ∉ eb :: e.rm :: e.bits.ownBlock.toList := by
        intro hm
        simp only [List.mem_cons] at hm
        rcases hm with h1 | h1 | h1
        · omega
        · have := h.rm.lt; omega
        · have := (World.ownsRow.lt hV w.heap.size (by simpa using h1)).2; omega
      have hsk : ∀ b, e.slots.ownBlock = some b → b ∉ eb :: e.rm :: e.bits.ownBlock.toList := by
        intro b hb hm
        simp only [List.mem_cons] at hm
        rcases hm with h1 | h1 | h1
        · exact (hsk0 b hb).1 h1
        · exact (hsk0 b hb).2 h1
        · exact h.dis b hb (by simpa using h1)
      refine ⟨rfl, _, bb, cap, hE', rfl, hcap, hV', h.words, hK'.vec (h.slots.alloc _) hsk, hnb, hK'.row (kc_row w o (0 + 1)) hnk, rfl, hbb'.imp id (fun h => by omega), hM', hk1, ?_⟩
      rcases hbb' with h1 | h1
      · exact fun e1 => rm_vec h.rm hV (by rw [h1, e1])
      · have := h.rm.lt; omega
    · rintro w' e1 bb cap i v ⟨h1, h2, h3, h4, h5⟩
      refine ⟨h1, h2, h3.of_block (Deep.blk_setCell_other _ _ _ _ (fun h => h5 h.symm)), h4.setCell ?_ _, h5⟩
      rcases h2 with h2 | h2
      · exact .inl (by unfold own; simp [h2])
      · exact .inr h2
    · rintro w' e1 bb cap q ⟨h1, h2, h3, h4, h5⟩
      exact ⟨h1, h2, h3, h4.drewN q, h5⟩
    · rintro w' ⟨e1, bb, cap, hE', hbits, hcap, hV', hw', hS', hnb, hkr, h1, h2, h3, h4, h5⟩
      have hf1 : e1.free = .slice none 0 0 := by rw [h1]; exact hfree
      refine zero_end eb B o 0 bb cap e e1 w w' none 0 h hBw ho hj _ hE' hbits hcap hV' (by unfold fillTo; rw [if_pos (by rw [words0]; omega), slotW0]; rfl) hw' hS' hnb (by rw [h1]) h3 h4 hf1 (by rw [hf1]; exact Vec.nil _ _ _ _ _) (fun b hb => by rw [hf1] at hb; simp [Value.ownBlock] at hb) h5
  · have hro := rowOf_free eb B o j fb fc e (w.alloc (.cells #[.int .u64 (o : Int), .int .u64 ((j + 1 : Nat) : Int)] 70)) (h.hE.alloc _) hfree (hF.alloc _) (h.rm.of_block (Deep.blk_alloc_lt _ _ _ h.rm.lt)) ho (by omega)
    rw [hbits] at hV
    have hbe : bb ≠ eb := vec_tag hV h.hE (by decide)
    have hbr : bb ≠ e.rm := fun h1 => rm_vec h.rm hV (by rw [h1]; rfl)
    have hcap : 1 ≤ cap := by
      rcases hV.shape with ⟨h1, _⟩ | ⟨_, _, h1, _, _, h2, _⟩
      · cases h1
      · simp only [Value.slice.injEq] at h1
        omega
    refine hold_gen eb B o (j + 1) 0 0 0 1 w (fun i => .int .u64 0)
      (fun w' e1 bb' cap' => bb' = bb ∧ cap' = cap ∧ e1 = { e with free := .slice (some ⟨fb, 0, none⟩) 0 fc } ∧ Vec w' B 3 1 e1.free 0 (fun _ => .int .i64 0) ∧ RM w' e.rm o (j + 1) ∧ Kept (own eb e) w w')
      _ (by omega) (by omega) rfl rfl (fun q hq => rfl) ?_ ?_ ?_ ?_
    · refine hro.mono ?_
      rintro x w' ⟨rfl, hE', hF', hM', hK'⟩
      have hk1 : Kept (own eb e) w w' := ((Kept.refl _ w).alloc _).step hK' (fun b hb => .inl (by
        unfold own
        simp only [List.mem_cons, List.not_mem_nil, or_false] at hb
        rcases hb with h | h <;> simp [h]))
      refine ⟨rfl, _, bb, cap, hE', hbits, hcap, hK'.vec (hV.alloc _) ?_, h.words, hK'.vec (h.slots.alloc _) ?_, ?_, hK'.row (kc_row w o (j + 1)) ?_, rfl, rfl, rfl, hF', hM', hk1⟩
      · intro b hb hm
        simp only [Value.ownBlock, Option.some.injEq] at hb
        simp only [List.mem_cons, List.not_mem_nil, or_false] at hm
        omega
      · intro b hb hm
        simp only [List.mem_cons, List.not_mem_nil, or_false] at hm
        have := hsk0 b hb
        omega
      · intro hs
        exact h.dis bb hs (by rw [hbits]; rfl)
      · intro hm
        simp only [List.mem_cons, List.not_mem_nil, or_false] at hm
        have := h.rm.lt
        omega
    · rintro w' e1 bb' cap' i v ⟨rfl, rfl, h3, h4, h5, h6⟩
      refine ⟨rfl, rfl, h3, ?_, h5.of_block (Deep.blk_setCell_other _ _ _ _ (fun h => hbr h.symm)), h6.setCell (.inl (by unfold own; simp [hbits, Value.ownBlock])) _⟩
      refine vec_set h4 ?_ _
      rw [h3]
      intro hb
      simp only [Value.ownBlock, Option.some.injEq] at hb
      exact vec_vec_ne hF hV (by decide) fb (by rw [hfree]; rfl) (by rw [← hb]; rfl)
    · rintro w' e1 bb' cap' q ⟨h1, h2, h3, h4, h5, h6⟩
      exact ⟨h1, h2, h3, h4, h5, h6.drewN q⟩
    · rintro w' ⟨e1, bb', cap', hE', hbits', hcap', hV', hw', hS', hnb', hkr, rfl, rfl, h3, h4, h5, h6⟩
      have hf1 : e1.free = .slice (some ⟨fb, 0, none⟩) 0 fc := by rw [h3]
      refine zero_end eb B o j bb' cap' e e1 w w' _ _ h hBw ho hj _ hE' hbits' hcap' hV' (by unfold fillTo; rw [if_pos (by rw [words0]; omega), slotW0]; rfl) hw' hS' hnb' (by rw [h3, hbits]) h5 h6 hf1 h4 (fun b hb => by rw [hf1] at hb; exact .inl (by rw [hfree, ← hb]; rfl)) hbr
end Go.Proofs.YbulkgbaiDoor
