import Derived.Test.YbulkgbaiLib
namespace Go.Proofs.Ybulkgbai
open Go.RowKit Go.Zz Go.Maps

/-- the incoming links written, of a new number -/
theorem ST.put_inc2 {w w' : World} {B eb : Nat} {e : EV} {D : Dat} (h : ST w B eb e D) (hk : Kept [e.inc] w w') {I : Nat} {ids : Nat → Nat} {MI : Nat → Bool} (hn : IX w' Yba.prog 42 e.inc I (fun i => idv (ids i)) iv MI) :
    ST w' B eb e { D with I := I, ids := ids, MI := MI } := by
  obtain ⟨f1, f2, f3, f4, f5, f6, f7, f8, f9, f10⟩ := h.frame hk
  have a := h.apart
  have hm := h.maps
  simp only [List.nodup_cons, List.mem_cons, List.not_mem_nil, or_false, not_or] at hm
  exact ⟨f1 (by simp [a.m0.symm]), hn, f3 (by simp [Ne.symm hm.1.1]), f4 (fun x hx => by simp [(a.bits x hx).2.1]), f5 (fun x hx => by simp [(a.slots x hx).2.1]), f6 (fun x hx => by simp [(a.free x hx).2.1]), f7 (by simp [Ne.symm hm.1.2.2.1]),
    f8 (fun j hj => by simp [(a.pa j hj).2.1]), f9 (by simp [Ne.symm hm.1.2.2.2]), f10 (by simp [Ne.symm hm.1.2.1]), h.maps, h.dis⟩

/-- the arrivals written, of a new number -/
theorem ST.put_ar2 {w w' : World} {B eb : Nat} {e : EV} {D : Dat} (h : ST w B eb e D) (hk : Kept [e.ar] w w') {R : Nat} {rid : Nat → Nat} {rl : Nat → Int} {rt : Nat → Nat} {MV : Nat → Bool} (hn : IX w' Yba.prog 42 e.ar R (fun k => idv (rid k)) (fun k => av (rl k) (rt k)) MV) :
    ST w' B eb e { D with R := R, rid := rid, rl := rl, rt := rt, MV := MV } := by
  obtain ⟨f1, f2, f3, f4, f5, f6, f7, f8, f9, f10⟩ := h.frame hk
  have a := h.apart
  have hm := h.maps
  simp only [List.nodup_cons, List.mem_cons, List.not_mem_nil, or_false, not_or] at hm
  exact ⟨f1 (by simp [a.m4.symm]), f2 (by simp [hm.1.2.2.2]), f3 (by simp [hm.2.1.2.2]), f4 (fun x hx => by simp [(a.bits x hx).2.2.2.2.2]), f5 (fun x hx => by simp [(a.slots x hx).2.2.2.2.2]), f6 (fun x hx => by simp [(a.free x hx).2.2.2.2.2.1]), f7 (by simp [hm.2.2.2.1]),
    f8 (fun j hj => by simp [(a.pa j hj).2.2.2.2.2.1]), hn, f10 (by simp [hm.2.2.1.2]), h.maps, h.dis⟩

/-- the handshakes written, of a new number -/
theorem ST.put_ac2 {w w' : World} {B eb : Nat} {e : EV} {D : Dat} (h : ST w B eb e D) (hk : Kept [e.ac] w w') {m : Nat} {f nn pa la lb : Nat → Nat} {MA : Nat → Bool} (hn : IX w' Yba.prog 65 e.ac m (fun j => lv (f j) (nn j)) (ptr pa) MA) (hA : AS w' m pa la lb) :
    ST w' B eb e { D with m := m, f := f, nn := nn, pa := pa, la := la, lb := lb, MA := MA } := by
  obtain ⟨f1, f2, f3, f4, f5, f6, f7, f8, f9, f10⟩ := h.frame hk
  have a := h.apart
  have hm := h.maps
  simp only [List.nodup_cons, List.mem_cons, List.not_mem_nil, or_false, not_or] at hm
  exact ⟨f1 (by simp [a.m3.symm]), f2 (by simp [hm.1.2.2.1]), f3 (by simp [hm.2.1.2.1]), f4 (fun x hx => by simp [(a.bits x hx).2.2.2.2.1]), f5 (fun x hx => by simp [(a.slots x hx).2.2.2.2.1]), f6 (fun x hx => by simp [(a.free x hx).2.2.2.2.1]), hn,
    hA, f9 (by simp [Ne.symm hm.2.2.2.1]), f10 (by simp [hm.2.2.1.1]), h.maps, h.dis⟩

/-- the slots' word written -/
theorem ST.put_slots {w : World} {B eb : Nat} {e : EV} {D : Dat} (h : ST w B eb e D) {sb sc : Nat} (hs : e.slots = .slice (some ⟨sb, 0, none⟩) 1 sc) (x : Nat) : ST (w.setCell ⟨sb, 0, none⟩ (.int .u64 (x : Int))) B eb e { D with sl := x } := by
  have hk : Kept [sb] w (w.setCell ⟨sb, 0, none⟩ (.int .u64 (x : Int))) := (Kept.refl _ w).setCell (.inl (by simp)) _
  obtain ⟨f1, f2, f3, f4, f5, f6, f7, f8, f9, f10⟩ := h.frame hk
  have a := h.apart
  have hx : e.slots.ownBlock = some sb := by rw [hs]; rfl
  obtain ⟨h1, h2, h3, h4, h5, h6⟩ := a.slots sb hx
  refine ⟨f1 (by simp [h1.symm]), f2 (by simp [h2.symm]), f3 (by simp [h3.symm]), f4 (fun y hy => ?_), ?_, f6 (fun y hy => ?_), f7 (by simp [h5.symm]), f8 (fun j hj => ?_), f9 (by simp [h6.symm]), f10 (by simp [h4.symm]), h.maps, h.dis⟩
  · have := h.dis sb hx
    simp only [List.mem_singleton]
    intro e1
    exact this (by rw [hy, e1])
  · have hv := h.slots
    rw [hs] at hv ⊢
    exact (hv.set 0 _).congr fun j hj => by (obtain rfl : j = 0 := by omega); simp
  · have := (a.free y hy).2.2.2.2.2.2.2
    simp only [List.mem_singleton]
    intro e1
    exact this (by rw [hx, e1])
  · have := (a.pa j hj).2.2.2.2.2.2.2.1
    simp only [List.mem_singleton]
    intro e1
    exact this (by rw [hx, e1])

theorem E.bits {w : World} {eb : Nat} {e : EV} (h : E w eb e) (v : Value) : E (w.setCell ⟨eb, 6, none⟩ v) eb { e with bits := v } :=
  (World.rowIs.set h 6 v).congr fun i hi => by rcases i with _ | _ | _ | _ | _ | _ | _ | _ | _ | _ | _ | _ | _ | _ | _ | _ | _ | _ | i <;> first | rfl | omega

/-- the rows written, of a new number -/
theorem ST.put_rm2 {w w' : World} {B eb : Nat} {e : EV} {D : Dat} {bv : Value} (h : ST w B eb e D) (hk : Kept (eb :: e.rm :: e.bits.ownBlock.toList) w w') (hE : E w' eb { e with bits := bv }) {N : Nat} {bw : Nat → Nat} {MR : Nat → Bool} (hn : IX w' Yba.prog 59 e.rm N (fun i => kv i 1) iv MR)
    (hb : Vec w' B 37 1 bv N (fun i => .int .u64 (bw i : Int))) (hd : ∀ x, e.slots.ownBlock = some x → bv.ownBlock ≠ some x) :
    ST w' B eb { e with bits := bv } { D with N := N, bw := bw, MR := MR } := by
  obtain ⟨f1, f2, f3, f4, f5, f6, f7, f8, f9, f10⟩ := h.frame hk
  have a := h.apart
  have hm := h.maps
  simp only [List.nodup_cons, List.mem_cons, List.not_mem_nil, or_false, not_or] at hm
  have hmem : ∀ z, z ≠ eb → z ≠ e.rm → e.bits.ownBlock ≠ some z → z ∉ eb :: e.rm :: e.bits.ownBlock.toList := fun z h1 h2 h3 => by
    simp only [List.mem_cons, Option.mem_toList]
    rintro (e1 | e1 | e1)
    · exact h1 e1
    · exact h2 e1
    · exact h3 e1
  exact ⟨hE, f2 (hmem _ a.m0 hm.1.1 (ix_vec h.inc h.bits)), hn, hb, f5 (fun x hx => hmem _ (a.slots x hx).1 (a.slots x hx).2.2.1 (h.dis x hx)), f6 (fun x hx => hmem _ (a.free x hx).1 (a.free x hx).2.2.1 (a.free x hx).2.2.2.2.2.2.1), f7 (hmem _ a.m3 (Ne.symm hm.2.1.2.1) (ix_vec h.ac h.bits)),
    f8 (fun j hj => hmem _ (a.pa j hj).1 (a.pa j hj).2.2.1 (a.pa j hj).2.2.2.2.2.2.1), f9 (hmem _ a.m4 (Ne.symm hm.2.1.2.2) (ix_vec h.ar h.bits)), f10 (hmem _ a.m2 (Ne.symm hm.2.1.1) (map_vec_ne h.op h.bits)), h.maps, hd⟩

/-- a row that is none of the engine's written -/
theorem ST.app {w w' : World} {B B' eb n size : Nat} {t : TypeId} {v : Value} {f : Nat → Value} {e : EV} {D : Dat} (h : ST w B eb e D) (hv : Vec w B' t size v n f) (h55 : 55 ≠ t) (h37 : 37 ≠ t) (h71 : t ≠ 71) (hfr : ∀ x, v.ownBlock = some x → e.free.ownBlock ≠ some x) (hg : w.grownBy w' v.ownBlock) : ST w' B eb e D := by
  have hk : Kept v.ownBlock.toList w w' := Kept.of_grown hg
  obtain ⟨f1, f2, f3, f4, f5, f6, f7, f8, f9, f10⟩ := h.frame hk
  have hmem : ∀ z, v.ownBlock ≠ some z → z ∉ v.ownBlock.toList := fun z h1 => by simpa using h1
  exact ⟨f1 (hmem _ (vec_ne hv h.hE h55)), f2 (hmem _ (ix_vec h.inc hv)), f3 (hmem _ (ix_vec h.rm hv)), f4 (fun x hx => hmem _ (vec_vec_ne h.bits hv h37 x hx)), f5 (fun x hx => hmem _ (vec_vec_ne h.slots hv h37 x hx)), f6 (fun x hx => hmem _ (fun h1 => hfr x h1 hx)), f7 (hmem _ (ix_vec h.ac hv)),
    f8 (fun j hj => hmem _ (h.has.vec_ne hj hv h71)), f9 (hmem _ (ix_vec h.ar hv)), f10 (hmem _ (map_vec_ne h.op hv)), h.maps, h.dis⟩

/-- append(v, x), the element's cells cs -/
theorem app1 (w : World) (B : Nat) (t e : TypeId) (z : Value) (size bytes : Nat) (ht : Yba.prog.underlying t = some (.slice e)) (hinfo : (Yba.prog.info? e).map (fun i => (i.zero, i.size, i.bytes)) = some (some z, size, bytes)) (hzs : z.cells.size = size) (hsz : 0 < size) (v : Value) (n : Nat) (f f' : Nat → Value) (hv : Vec w B e size v n f)
    (cs : Array Value) (hcs : cs.size = size) (h1 : ∀ j, j < size → (cs.getD j undef).oneCell' = true) (hf1 : ∀ j, j < n * size → f' j = f j) (hf2 : ∀ j, j < size → f' (n * size + j) = cs.getD j undef) (hn : n + 1 ≤ 4096) (hby : bytes ≤ 4096) (hB : B ≤ w.heap.size) :
    ∃ (b cap : Nat) (w' : World), (Builtin.append_ #[t, t] t #[v, .slice (some ⟨w.heap.size, 0, none⟩) 1 1]).run Yba.prog (w.alloc (.cells cs e)) = .ok (.slice (some ⟨b, 0, none⟩) (n + 1) cap) w' ∧
      Vec w' B e size (.slice (some ⟨b, 0, none⟩) (n + 1) cap) (n + 1) f' ∧ w.grownBy w' v.ownBlock ∧ (v.ownBlock = some b ∨ w.heap.size ≤ b) := by
  obtain ⟨b, cap, w', hrun, hV, hg, hat, _⟩ := run_append_vec Yba.prog (w.alloc (.cells cs e)) B t t e z size bytes ht hinfo hzs hsz v n f (hv.alloc _) ⟨w.heap.size, 0, none⟩ 1 1 (by decide) (fun j => cs.getD j undef) f'
    (fun j hj => by
      rw [add_zero_plain]
      have hr : (w.alloc (.cells cs e)).rowIs w.heap.size e cs.size (fun j => cs.getD j undef) := World.rowIs_alloc _ _ _ _ (fun i hi => by simp [Array.getD, hi])
      exact hr.cell (by omega)) (fun j hj => h1 j (by omega)) hf1 (fun j hj => hf2 j (by omega)) (by unfold maxLen; omega) (by
        have : (n + 1) * bytes ≤ 4096 * 4096 := Nat.mul_le_mul hn hby
        omega) (by rw [Deep.nblk_alloc]; omega)
  refine ⟨b, cap, w', hrun, hV, ?_, ?_⟩
  · refine ⟨hg.os, hg.tape, hg.output, ?_, fun k hk hne => ?_⟩
    · have := hg.size
      rw [Deep.nblk_alloc] at this
      omega
    · rw [hg.block k (by rw [Deep.nblk_alloc]; omega) hne, Deep.blk_alloc_lt _ _ _ hk]
  · rcases hat with h | h
    · exact .inl h
    · rw [Deep.nblk_alloc] at h
      exact .inr (by omega)

/-- no two ids below 6 alike: at most 6 -/
theorem le_six (I : Nat) (ids : Nat → Nat) (hinj : ∀ i j, i < I → j < I → ids i = ids j → i = j) (h6 : ∀ i, i < I → ids i < 6) : I ≤ 6 := by
  have h1 : ((List.range I).map ids).Nodup := by
    rw [List.nodup_iff_pairwise_ne, List.pairwise_map]
    refine List.Pairwise.imp_of_mem ?_ (List.nodup_iff_pairwise_ne.1 List.nodup_range)
    intro a b ha hb hne e
    exact hne (hinj a b (List.mem_range.1 ha) (List.mem_range.1 hb) e)
  have h2 : ((List.range I).map ids) ⊆ List.range 6 := fun x hx => by
    obtain ⟨i, hi, rfl⟩ := List.mem_map.1 hx
    exact List.mem_range.2 (h6 i (List.mem_range.1 hi))
  simpa using h1.length_le_of_subset h2

/-- one value more -/
def snoc {α : Type} (f : Nat → α) (I : Nat) (y : α) : Nat → α := fun i => if i = I then y else f i
theorem snoc_lt {α : Type} {f : Nat → α} {I i : Nat} {y : α} (h : i < I) : snoc f I y i = f i := if_neg (by omega)
theorem snoc_eq {α : Type} {f : Nat → α} {I : Nat} {y : α} : snoc f I y I = y := if_pos rfl
theorem snoc_all {α : Type} {f : Nat → α} {I : Nat} {y : α} {p : α → Prop} (h : ∀ i, i < I → p (f i)) (hy : p y) : ∀ i, i < I + 1 → p (snoc f I y i) := fun i hi => by
  by_cases e : i = I
  · rw [e, snoc_eq]; exact hy
  · rw [snoc_lt (by omega)]; exact h i (by omega)
theorem snoc_inj {α : Type} {f : Nat → α} {I : Nat} {y : α} (hinj : ∀ i j, i < I → j < I → f i = f j → i = j) (hno : ∀ i, i < I → f i ≠ y) : ∀ i j, i < I + 1 → j < I + 1 → snoc f I y i = snoc f I y j → i = j := fun i j hi hj e1 => by
  by_cases hi1 : i = I
  · by_cases hj1 : j = I
    · omega
    · rw [hi1, snoc_eq, snoc_lt (by omega)] at e1
      exact absurd e1.symm (hno j (by omega))
  · by_cases hj1 : j = I
    · rw [hj1, snoc_eq, snoc_lt (by omega)] at e1
      exact absurd e1 (hno i (by omega))
    · rw [snoc_lt (by omega), snoc_lt (by omega)] at e1
      exact hinj i j (by omega) (by omega) e1

/-- the slot of the link from fr among the first t, -1 where there is none -/
def SF (ids : Nat → Nat) (fr t : Nat) (s : Int) : Prop := (∃ i, i < t ∧ ids i = fr ∧ s = (i : Int)) ∨ ((∀ i, i < t → ids i ≠ fr) ∧ s = -1)

theorem SF.hit {ids : Nat → Nat} {fr t : Nat} (h : ids t = fr) : SF ids fr (t + 1) (t : Int) := .inl ⟨t, by omega, h, rfl⟩
theorem SF.skip {ids : Nat → Nat} {fr t : Nat} {s : Int} (h : SF ids fr t s) (hne : ids t ≠ fr) : SF ids fr (t + 1) s := by
  rcases h with ⟨i, hi, h1, h2⟩ | ⟨h1, h2⟩
  · exact .inl ⟨i, by omega, h1, h2⟩
  · refine .inr ⟨fun i hi => ?_, h2⟩
    by_cases e : i = t
    · rw [e]; exact hne
    · exact h1 i (by omega)

/-- the engine of the literal -/
def e0 (s : Nat) : EV :=
  { self := 100, life := 0, outv := .nilIface, outg := .slice none 0 0, inc := s, rm := s + 1, bits := .slice none 0 0, free := .slice none 0 0, words := 1, slots := .slice (some ⟨s + 1 + 1, 0, none⟩) 1 1, op := s + 1 + 1 + 1, ac := s + 1 + 1 + 1 + 1, ar := s + 1 + 1 + 1 + 1 + 1, wl := false, dl := false, seq := 0, links := 0, ent := 0 }

def D0 : Dat := { I := 0, ids := fun _ => 0, MI := fun _ => true, N := 0, bw := fun _ => 0, MR := fun _ => true, fl := [], sl := 0, m := 0, f := fun _ => 0, nn := fun _ => 0, pa := fun _ => 0, la := fun _ => 0, lb := fun _ => 0, MA := fun _ => true, R := 0, rid := fun _ => 0, rl := fun _ => 0, rt := fun _ => 0, MV := fun _ => true }

/-- the data of a state in which every entry is there -/
def mkD (I : Nat) (ids : Nat → Nat) (sl N : Nat) (bw : Nat → Nat) (m : Nat) (f nn pa la lb : Nat → Nat) (R : Nat) (rid : Nat → Nat) (rl : Nat → Int) (rt : Nat → Nat) : Dat :=
  { I := I, ids := ids, MI := fun _ => true, N := N, bw := bw, MR := fun _ => true, fl := [], sl := sl, m := m, f := f, nn := nn, pa := pa, la := la, lb := lb, MA := fun _ => true, R := R, rid := rid, rl := rl, rt := rt, MV := fun _ => true }

/-- .. with no handshake and no arrival -/
def mkB (I : Nat) (ids : Nat → Nat) (sl N : Nat) (bw : Nat → Nat) : Dat := mkD I ids sl N bw 0 (fun _ => 0) (fun _ => 0) (fun _ => 0) (fun _ => 0) (fun _ => 0) 0 (fun _ => 0) (fun _ => 0) (fun _ => 0)

theorem mask_step (t : Nat) (h : t < 6) : bits .or .u64 ((2 ^ t - 1 : Nat) : Int) (IntKind.u64.wrap (2 ^ t)) = ((2 ^ (t + 1) - 1 : Nat) : Int) := by
  rcases (show t = 0 ∨ t = 1 ∨ t = 2 ∨ t = 3 ∨ t = 4 ∨ t = 5 by omega) with rfl | rfl | rfl | rfl | rfl | rfl <;> decide

theorem wrap_pow (t : Nat) (h : t < 6) : IntKind.u64.wrap (2 ^ t) = ((2 ^ t : Nat) : Int) := by
  rcases (show t = 0 ∨ t = 1 ∨ t = 2 ∨ t = 3 ∨ t = 4 ∨ t = 5 by omega) with rfl | rfl | rfl | rfl | rfl | rfl <;> decide

theorem mask_lt (I : Nat) (h : I ≤ 6) : 2 ^ I - 1 < 64 := by
  rcases (show I = 0 ∨ I = 1 ∨ I = 2 ∨ I = 3 ∨ I = 4 ∨ I = 5 ∨ I = 6 by omega) with rfl | rfl | rfl | rfl | rfl | rfl | rfl <;> decide

def litCells (s : Nat) : Array Value := #[.int .u32 100, .int .u32 0, .nilIface, .slice none 0 0, .map (some s), .map (some (s + 1)), .slice none 0 0, .slice none 0 0, .int .i64 1, .slice (some ⟨s + 1 + 1, 0, none⟩) 1 1, .map (some (s + 1 + 1 + 1)), .map (some (s + 1 + 1 + 1 + 1)), .map (some (s + 1 + 1 + 1 + 1 + 1)), .bool false, .bool false, .int .u64 0, .int .u64 0, .int .i64 0]

/-- the world behind the literal -/
def litW (w : World) : World :=
  ((((((w.alloc (.map #[] 0)).alloc (.map #[] 0)).alloc (.cells (madeCells #[.int .u64 0] 1) 37)).alloc (.map #[] 0)).alloc (.map #[] 0)).alloc (.map #[] 0)).alloc (.cells (litCells w.heap.size) 55)

theorem ix_zero {w : World} {P : Program} {k : TypeId} {b : Nat} {K V : Nat → Value} {M : Nat → Bool} (h : w.heap[b]? = some (.map #[] 0)) : IX w P k b 0 K V M := by
  obtain ⟨h1, h2, D, ⟨es, c, hb, hr⟩, h4⟩ := IX.made w P k K V M
  rw [Deep.blk_alloc_new] at hb
  cases hb
  exact ⟨h1, h2, D, ⟨#[], 0, h, hr⟩, h4⟩

theorem ix_zero_of {w : World} {P : Program} {k : TypeId} {b : Nat} {K V K' V' : Nat → Value} {M M' : Nat → Bool} (h : IX w P k b 0 K V M) : IX w P k b 0 K' V' M' := by
  obtain ⟨h1, h2, D, h3, h4, h5⟩ := h
  refine ⟨fun j hj => by omega, fun i j hi => by omega, D, h3, fun j _ hj => by omega, fun kl hh => ?_⟩
  obtain ⟨j, hj, _⟩ := h5 kl hh
  omega

theorem litW_block (w : World) : (litW w).heap[w.heap.size]? = some (.map #[] 0) ∧ (litW w).heap[w.heap.size + 1]? = some (.map #[] 0) ∧ (litW w).heap[w.heap.size + 1 + 1]? = some (.cells (madeCells #[.int .u64 0] 1) 37) ∧ (litW w).heap[w.heap.size + 1 + 1 + 1]? = some (.map #[] 0) ∧
    (litW w).heap[w.heap.size + 1 + 1 + 1 + 1]? = some (.map #[] 0) ∧ (litW w).heap[w.heap.size + 1 + 1 + 1 + 1 + 1]? = some (.map #[] 0) ∧ (litW w).heap[w.heap.size + 1 + 1 + 1 + 1 + 1 + 1]? = some (.cells (litCells w.heap.size) 55) ∧ Below w.heap.size w (litW w) := by
  unfold litW
  refine ⟨?_, ?_, ?_, ?_, ?_, ?_, ?_, ?_⟩
  · simp only [World.alloc, Array.getElem?_push, Array.size_push]
    repeat (first | rw [if_pos trivial] | rw [if_neg (by omega)])
  · simp only [World.alloc, Array.getElem?_push, Array.size_push]
    repeat (first | rw [if_pos trivial] | rw [if_neg (by omega)])
  · simp only [World.alloc, Array.getElem?_push, Array.size_push]
    repeat (first | rw [if_pos trivial] | rw [if_neg (by omega)])
  · simp only [World.alloc, Array.getElem?_push, Array.size_push]
    repeat (first | rw [if_pos trivial] | rw [if_neg (by omega)])
  · simp only [World.alloc, Array.getElem?_push, Array.size_push]
    repeat (first | rw [if_pos trivial] | rw [if_neg (by omega)])
  · simp only [World.alloc, Array.getElem?_push, Array.size_push]
    repeat (first | rw [if_pos trivial] | rw [if_neg (by omega)])
  · simp only [World.alloc, Array.getElem?_push, Array.size_push]
    repeat (first | rw [if_pos trivial] | rw [if_neg (by omega)])
  · have hle : ∀ (w' : World) (o : Obj), Below w.heap.size w w' → Below w.heap.size w (w'.alloc o) := fun w' o h => h.alloc h.size o
    exact hle _ _ (hle _ _ (hle _ _ (hle _ _ (hle _ _ (hle _ _ (hle _ _ (Below.refl _ _)))))))

theorem start_st (w : World) : ST (litW w) w.heap.size (w.heap.size + 1 + 1 + 1 + 1 + 1 + 1) (e0 w.heap.size) D0 := by
  obtain ⟨h1, h2, h3, h4, h5, h6, h7, h8⟩ := litW_block w
  refine ⟨?_, ix_zero h1, ix_zero h2, Vec.nil _ _ _ _ _, ?_, Vec.nil _ _ _ _ _, ix_zero h5, fun j hj => by simp [D0] at hj, ix_zero h6, h4, ?_, ?_⟩
  · refine ⟨_, h7, rfl, fun i hi => ?_⟩
    rcases i with _ | _ | _ | _ | _ | _ | _ | _ | _ | _ | _ | _ | _ | _ | _ | _ | _ | _ | i <;> first | rfl | omega
  · refine Vec.of_row (n := 1) ⟨_, h3, size_madeCells _ _, fun i hi => ?_⟩ (by omega) (by unfold maxLen; omega)
    (obtain rfl : i = 0 := by omega)
    simp [madeCells, D0]
  · simp [e0]
    omega
  · intro x hx
    simp [e0, Value.ownBlock]

/-- one row more: the map first, then the bits' row, then the engine's cell -/
theorem ST.row {w w5 w6 : World} {B eb t x bb cap : Nat} {e : EV} {bv : Value} {I : Nat} {ids : Nat → Nat} {sl : Nat} {bw : Nat → Nat} (h : ST w B eb { e with bits := bv } (mkB I ids sl t bw)) (hn : IX w5 Yba.prog 59 e.rm (t + 1) (fun i => kv i 1) iv (fun _ => true)) (hg5 : w.grownBy w5 (some e.rm))
    (hV : Vec w6 B 37 1 (.slice (some ⟨bb, 0, none⟩) (t + 1) cap) (t + 1) (fun i => .int .u64 ((snoc bw t x i : Nat) : Int))) (hg6 : w5.grownBy w6 bv.ownBlock) (hat : bv.ownBlock = some bb ∨ w5.heap.size ≤ bb) :
    ST (w6.setCell ⟨eb, 6, none⟩ (.slice (some ⟨bb, 0, none⟩) (t + 1) cap)) B eb { e with bits := .slice (some ⟨bb, 0, none⟩) (t + 1) cap } (mkB I ids sl (t + 1) (snoc bw t x)) := by
  have hne : e.rm ≠ eb := h.apart.m1
  have hnb : bv.ownBlock ≠ some eb := vec_ne h.bits h.hE (by decide)
  have hnm : bv.ownBlock ≠ some e.rm := ix_vec h.rm h.bits
  have hE5 : E w5 eb { e with bits := bv } := rowIs_grown h.hE hg5 (fun e1 => hne (by simpa using e1.symm))
  have hE6 : E w6 eb { e with bits := bv } := rowIs_grown hE5 hg6 (fun e1 => hnb e1.symm)
  have hn6 : IX w6 Yba.prog 59 e.rm (t + 1) (fun i => kv i 1) iv (fun _ => true) := hn.of_block (hg6.block _ hn.lt (fun e1 => hnm e1.symm))
  have hbe : bb ≠ eb := by
    rcases hat with h1 | h1
    · exact fun e1 => hnb (by rw [h1, e1])
    · have := World.rowIs.lt hE5
      omega
  have hk : Kept (eb :: e.rm :: bv.ownBlock.toList) w (w6.setCell ⟨eb, 6, none⟩ (.slice (some ⟨bb, 0, none⟩) (t + 1) cap)) := by
    refine Kept.setCell ?_ (.inl (by simp)) _
    refine Kept.grown (Kept.grown (Kept.refl _ w) hg5 (fun k hk => .inl ?_)) hg6 (fun k hk => .inl ?_)
    · simp only [Option.some.injEq] at hk
      simp [hk]
    · simp [hk]
  refine ST.put_rm2 (e := { e with bits := bv }) (D := mkB I ids sl t bw) h hk (E.bits hE6 _) (hn6.of_block (Deep.blk_setCell_other _ _ _ _ hne)) (vec_set hV (fun e1 => hbe (by simpa [Value.ownBlock] using e1)) _) ?_
  intro y hy e1
  have hy' : e.slots.ownBlock = some y := hy
  simp only [Value.ownBlock, Option.some.injEq] at e1
  rcases hat with h1 | h1
  · exact h.dis y hy' (by rw [← e1]; exact h1)
  · have h2 : y < w.heap.size := (World.ownsRow.lt h.slots y hy').2
    have h3 := hg5.size
    omega
end Go.Proofs.Ybulkgbai
