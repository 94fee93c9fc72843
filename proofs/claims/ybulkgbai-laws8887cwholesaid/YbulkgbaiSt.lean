import Derived.Test.YbulkgbaiAcc
namespace Go.Proofs.Ybulkgbai
open Go.RowKit Go.Zz Go.Maps

/-- what the engine's maps and rows hold -/
structure Dat where
  I : Nat
  ids : Nat → Nat
  MI : Nat → Bool
  N : Nat
  bw : Nat → Nat
  MR : Nat → Bool
  fl : List Nat
  sl : Nat
  m : Nat
  f : Nat → Nat
  nn : Nat → Nat
  pa : Nat → Nat
  la : Nat → Nat
  lb : Nat → Nat
  MA : Nat → Bool
  R : Nat
  rid : Nat → Nat
  rl : Nat → Int
  rt : Nat → Nat
  MV : Nat → Bool

/-- an arrival -/
def av (l : Int) (t : Nat) : Value := .agg #[.int .i64 l, .int .u64 (t : Int)]

/-- the engine's state in memory -/
structure ST (w : World) (B eb : Nat) (e : EV) (D : Dat) : Prop where
  hE : E w eb e
  inc : IX w Yba.prog 42 e.inc D.I (fun i => idv (D.ids i)) iv D.MI
  rm : IX w Yba.prog 59 e.rm D.N (fun i => kv i 1) iv D.MR
  bits : Vec w B 37 1 e.bits D.N (fun i => .int .u64 (D.bw i : Int))
  slots : Vec w B 37 1 e.slots 1 (fun _ => .int .u64 (D.sl : Int))
  free : Vec w B 3 1 e.free D.fl.length (lf D.fl)
  ac : IX w Yba.prog 65 e.ac D.m (fun j => lv (D.f j) (D.nn j)) (ptr D.pa) D.MA
  has : AS w D.m D.pa D.la D.lb
  ar : IX w Yba.prog 42 e.ar D.R (fun k => idv (D.rid k)) (fun k => av (D.rl k) (D.rt k)) D.MV
  op : w.heap[e.op]? = some (.map #[] 0)
  maps : [e.inc, e.rm, e.op, e.ac, e.ar].Nodup
  dis : ∀ x, e.slots.ownBlock = some x → e.bits.ownBlock ≠ some x

theorem ST.op_lt {w : World} {B eb : Nat} {e : EV} {D : Dat} (h : ST w B eb e D) : e.op < w.heap.size := (Array.getElem?_eq_some_iff.1 h.op).1

/-- what is not written is kept -/
theorem ST.frame {S : List Nat} {w w' : World} {B eb : Nat} {e : EV} {D : Dat} (h : ST w B eb e D) (hk : Kept S w w') :
    (eb ∉ S → E w' eb e) ∧ (e.inc ∉ S → IX w' Yba.prog 42 e.inc D.I (fun i => idv (D.ids i)) iv D.MI) ∧ (e.rm ∉ S → IX w' Yba.prog 59 e.rm D.N (fun i => kv i 1) iv D.MR) ∧
    ((∀ x, e.bits.ownBlock = some x → x ∉ S) → Vec w' B 37 1 e.bits D.N (fun i => .int .u64 (D.bw i : Int))) ∧ ((∀ x, e.slots.ownBlock = some x → x ∉ S) → Vec w' B 37 1 e.slots 1 (fun _ => .int .u64 (D.sl : Int))) ∧
    ((∀ x, e.free.ownBlock = some x → x ∉ S) → Vec w' B 3 1 e.free D.fl.length (lf D.fl)) ∧ (e.ac ∉ S → IX w' Yba.prog 65 e.ac D.m (fun j => lv (D.f j) (D.nn j)) (ptr D.pa) D.MA) ∧
    ((∀ j, j < D.m → D.pa j ∉ S) → AS w' D.m D.pa D.la D.lb) ∧ (e.ar ∉ S → IX w' Yba.prog 42 e.ar D.R (fun k => idv (D.rid k)) (fun k => av (D.rl k) (D.rt k)) D.MV) ∧ (e.op ∉ S → w'.heap[e.op]? = some (.map #[] 0)) :=
  ⟨fun hs => hk.row h.hE hs, fun hs => h.inc.of_block (hk.block _ h.inc.lt hs), fun hs => h.rm.of_block (hk.block _ h.rm.lt hs), fun hs => hk.vec h.bits hs, fun hs => hk.vec h.slots hs, fun hs => hk.vec h.free hs,
    fun hs => h.ac.of_block (hk.block _ h.ac.lt hs), fun hs => h.has.kept hk hs, fun hs => h.ar.of_block (hk.block _ h.ar.lt hs), fun hs => (hk.block _ h.op_lt hs).trans h.op⟩

/-- no two of its blocks are one -/
structure Apart (eb : Nat) (e : EV) (D : Dat) : Prop where
  m0 : e.inc ≠ eb
  m1 : e.rm ≠ eb
  m2 : e.op ≠ eb
  m3 : e.ac ≠ eb
  m4 : e.ar ≠ eb
  bits : ∀ x, e.bits.ownBlock = some x → x ≠ eb ∧ x ≠ e.inc ∧ x ≠ e.rm ∧ x ≠ e.op ∧ x ≠ e.ac ∧ x ≠ e.ar
  slots : ∀ x, e.slots.ownBlock = some x → x ≠ eb ∧ x ≠ e.inc ∧ x ≠ e.rm ∧ x ≠ e.op ∧ x ≠ e.ac ∧ x ≠ e.ar
  free : ∀ x, e.free.ownBlock = some x → x ≠ eb ∧ x ≠ e.inc ∧ x ≠ e.rm ∧ x ≠ e.op ∧ x ≠ e.ac ∧ x ≠ e.ar ∧ e.bits.ownBlock ≠ some x ∧ e.slots.ownBlock ≠ some x
  pa : ∀ j, j < D.m → D.pa j ≠ eb ∧ D.pa j ≠ e.inc ∧ D.pa j ≠ e.rm ∧ D.pa j ≠ e.op ∧ D.pa j ≠ e.ac ∧ D.pa j ≠ e.ar ∧ e.bits.ownBlock ≠ some (D.pa j) ∧ e.slots.ownBlock ≠ some (D.pa j) ∧ e.free.ownBlock ≠ some (D.pa j)

theorem map_row_ne {w : World} {b n x : Nat} {t : TypeId} {f : Nat → Value} (hm : w.heap[x]? = some (.map #[] 0)) (hr : w.rowIs b t n f) : x ≠ b := by
  intro e
  obtain ⟨c, hc, _⟩ := hr
  rw [e, hc] at hm
  cases hm

theorem map_vec_ne {w : World} {B n size x : Nat} {t : TypeId} {v : Value} {f : Nat → Value} (hm : w.heap[x]? = some (.map #[] 0)) (hv : Vec w B t size v n f) : v.ownBlock ≠ some x := by
  rcases hv.2 with ⟨h1, _⟩ | ⟨c, cap, cur, h1, h2, h3, _⟩
  · rw [h1]; simp [Value.ownBlock]
  · intro hb
    rw [h1] at hb
    simp only [Value.ownBlock, Option.some.injEq] at hb
    subst hb
    rw [h3] at hm
    cases hm

theorem ST.vec_apart {w : World} {B eb n size : Nat} {t : TypeId} {v : Value} {f : Nat → Value} {e : EV} {D : Dat} (h : ST w B eb e D) (hv : Vec w B t size v n f) (ht : 55 ≠ t) : ∀ x, v.ownBlock = some x → x ≠ eb ∧ x ≠ e.inc ∧ x ≠ e.rm ∧ x ≠ e.op ∧ x ≠ e.ac ∧ x ≠ e.ar := fun x hx =>
  ⟨fun e1 => vec_ne hv h.hE ht (by rw [hx, e1]), fun e1 => ix_vec h.inc hv (by rw [hx, e1]), fun e1 => ix_vec h.rm hv (by rw [hx, e1]), fun e1 => map_vec_ne h.op hv (by rw [hx, e1]), fun e1 => ix_vec h.ac hv (by rw [hx, e1]), fun e1 => ix_vec h.ar hv (by rw [hx, e1])⟩

theorem ST.apart {w : World} {B eb : Nat} {e : EV} {D : Dat} (h : ST w B eb e D) : Apart eb e D where
  m0 := ix_ne h.inc h.hE
  m1 := ix_ne h.rm h.hE
  m2 := map_row_ne h.op h.hE
  m3 := ix_ne h.ac h.hE
  m4 := ix_ne h.ar h.hE
  bits := h.vec_apart h.bits (by decide)
  slots := h.vec_apart h.slots (by decide)
  free := fun x hx => by
    obtain ⟨h1, h2, h3, h4, h5, h6⟩ := h.vec_apart h.free (by decide) x hx
    exact ⟨h1, h2, h3, h4, h5, h6, vec_vec_ne h.free h.bits (by decide) x hx, vec_vec_ne h.free h.slots (by decide) x hx⟩
  pa := fun j hj => by
    refine ⟨h.has.row_ne hj h.hE (by decide), h.has.ix_ne hj h.inc, h.has.ix_ne hj h.rm, ?_, h.has.ix_ne hj h.ac, h.has.ix_ne hj h.ar, h.has.vec_ne hj h.bits (by decide), h.has.vec_ne hj h.slots (by decide), h.has.vec_ne hj h.free (by decide)⟩
    obtain ⟨_, _, F, aa, ca, ab, cb, hr, _⟩ := h.has j hj
    exact fun e => map_row_ne h.op hr e.symm

/-- nothing written -/
theorem ST.quiet {w w' : World} {B eb : Nat} {e : EV} {D : Dat} (h : ST w B eb e D) (hk : Kept [] w w') : ST w' B eb e D := by
  obtain ⟨f1, f2, f3, f4, f5, f6, f7, f8, f9, f10⟩ := h.frame hk
  exact ⟨f1 (by simp), f2 (by simp), f3 (by simp), f4 (by simp), f5 (by simp), f6 (by simp), f7 (by simp), f8 (by simp), f9 (by simp), f10 (by simp), h.maps, h.dis⟩

/-- the arrivals written -/
theorem ST.put_ar {w w' : World} {B eb : Nat} {e : EV} {D : Dat} (h : ST w B eb e D) (hk : Kept [e.ar] w w') {rl : Nat → Int} {rt : Nat → Nat} {MV : Nat → Bool} (hn : IX w' Yba.prog 42 e.ar D.R (fun k => idv (D.rid k)) (fun k => av (rl k) (rt k)) MV) :
    ST w' B eb e { D with rl := rl, rt := rt, MV := MV } := by
  obtain ⟨f1, f2, f3, f4, f5, f6, f7, f8, f9, f10⟩ := h.frame hk
  have a := h.apart
  have hm := h.maps
  simp only [List.nodup_cons, List.mem_cons, List.not_mem_nil, or_false, not_or] at hm
  exact ⟨f1 (by simp [a.m4.symm]), f2 (by simp [hm.1.2.2.2]), f3 (by simp [hm.2.1.2.2]), f4 (fun x hx => by simp [(a.bits x hx).2.2.2.2.2]), f5 (fun x hx => by simp [(a.slots x hx).2.2.2.2.2]), f6 (fun x hx => by simp [(a.free x hx).2.2.2.2.2.1]), f7 (by simp [hm.2.2.2.1]),
    f8 (fun j hj => by simp [(a.pa j hj).2.2.2.2.2.1]), hn, f10 (by simp [hm.2.2.1.2]), h.maps, h.dis⟩

/-- the incoming links written -/
theorem ST.put_inc {w w' : World} {B eb : Nat} {e : EV} {D : Dat} (h : ST w B eb e D) (hk : Kept [e.inc] w w') {MI : Nat → Bool} (hn : IX w' Yba.prog 42 e.inc D.I (fun i => idv (D.ids i)) iv MI) :
    ST w' B eb e { D with MI := MI } := by
  obtain ⟨f1, f2, f3, f4, f5, f6, f7, f8, f9, f10⟩ := h.frame hk
  have a := h.apart
  have hm := h.maps
  simp only [List.nodup_cons, List.mem_cons, List.not_mem_nil, or_false, not_or] at hm
  exact ⟨f1 (by simp [a.m0.symm]), hn, f3 (by simp [Ne.symm hm.1.1]), f4 (fun x hx => by simp [(a.bits x hx).2.1]), f5 (fun x hx => by simp [(a.slots x hx).2.1]), f6 (fun x hx => by simp [(a.free x hx).2.1]), f7 (by simp [Ne.symm hm.1.2.2.1]),
    f8 (fun j hj => by simp [(a.pa j hj).2.1]), f9 (by simp [Ne.symm hm.1.2.2.2]), f10 (by simp [Ne.symm hm.1.2.1]), h.maps, h.dis⟩

/-- the handshakes and the count written -/
theorem ST.put_ac {w w' : World} {B eb : Nat} {e : EV} {D : Dat} {z : Int} (h : ST w B eb e D) (hk : Kept [eb, e.ac] w w') (hE : E w' eb { e with ent := z }) {MA : Nat → Bool} (hn : IX w' Yba.prog 65 e.ac D.m (fun j => lv (D.f j) (D.nn j)) (ptr D.pa) MA) :
    ST w' B eb { e with ent := z } { D with MA := MA } := by
  obtain ⟨f1, f2, f3, f4, f5, f6, f7, f8, f9, f10⟩ := h.frame hk
  have a := h.apart
  have hm := h.maps
  simp only [List.nodup_cons, List.mem_cons, List.not_mem_nil, or_false, not_or] at hm
  exact ⟨hE, f2 (by simp [hm.1.2.2.1, a.m0]), f3 (by simp [hm.2.1.2.1, a.m1]), f4 (fun x hx => by simp [(a.bits x hx).2.2.2.2.1, (a.bits x hx).1]), f5 (fun x hx => by simp [(a.slots x hx).2.2.2.2.1, (a.slots x hx).1]), f6 (fun x hx => by simp [(a.free x hx).2.2.2.2.1, (a.free x hx).1]), hn,
    f8 (fun j hj => by simp [(a.pa j hj).2.2.2.2.1, (a.pa j hj).1]), f9 (by simp [Ne.symm hm.2.2.2.1, a.m4]), f10 (by simp [hm.2.2.1.1, a.m2]), h.maps, h.dis⟩

/-- the count written -/
theorem ST.put_ent {w : World} {B eb : Nat} {e : EV} {D : Dat} (h : ST w B eb e D) (z : Int) : ST (w.setCell ⟨eb, 17, none⟩ (.int .i64 z)) B eb { e with ent := z } D := by
  have hk : Kept [eb, e.ac] w (w.setCell ⟨eb, 17, none⟩ (.int .i64 z)) := (Kept.refl _ w).setCell (.inl (by simp)) _
  exact h.put_ac hk (h.hE.ent z) (h.ac.of_block (Deep.blk_setCell_other _ _ _ _ h.apart.m3))

/-- the copies written -/
theorem ST.put_rm {w w' : World} {B eb it c : Nat} {e : EV} {D : Dat} {b sl : Nat} {fl : List Nat} {fv : Value} (h : ST w B eb e D) (hd : DI w w' B eb it D.N b sl e D.bw (fun _ => false) c fl fv) :
    ST w' B eb { e with free := fv } { D with bw := fun i => dropF (D.bw i) b, MR := fun i => !(freed (D.bw i) b), fl := fl, sl := sl } := by
  obtain ⟨f1, f2, f3, f4, f5, f6, f7, f8, f9, f10⟩ := h.frame hd.hK
  have a := h.apart
  have hm := h.maps
  simp only [List.nodup_cons, List.mem_cons, List.not_mem_nil, or_false, not_or] at hm
  have hb : ∀ x, e.bits.ownBlock = some x → x ≠ eb ∧ x ≠ e.inc ∧ x ≠ e.rm ∧ x ≠ e.op ∧ x ≠ e.ac ∧ x ≠ e.ar := a.bits
  have hmem : ∀ z, z ≠ eb → z ≠ e.rm → e.bits.ownBlock ≠ some z → e.slots.ownBlock ≠ some z → z ∉ eb :: e.rm :: (e.bits.ownBlock.toList ++ e.slots.ownBlock.toList) := fun z h1 h2 h3 h4 => by
    simp only [List.mem_cons, List.mem_append, Option.mem_toList]
    rintro (e1 | e1 | e1 | e1)
    · exact h1 e1
    · exact h2 e1
    · exact h3 e1
    · exact h4 e1
  refine ⟨hd.hE, f2 (hmem _ a.m0 hm.1.1 (ix_vec h.inc h.bits) (ix_vec h.inc h.slots)), hd.hM.ix.congr (fun i _ => by simp) (fun _ _ _ => rfl), hd.hV.congr (fun i hi => by simp), hd.hS, hd.hF, f7 (hmem _ a.m3 (Ne.symm hm.2.1.2.1) (ix_vec h.ac h.bits) (ix_vec h.ac h.slots)),
    f8 (fun j hj => hmem _ (a.pa j hj).1 (a.pa j hj).2.2.1 (a.pa j hj).2.2.2.2.2.2.1 (a.pa j hj).2.2.2.2.2.2.2.1), f9 (hmem _ a.m4 (Ne.symm hm.2.1.2.2) (ix_vec h.ar h.bits) (ix_vec h.ar h.slots)), f10 (hmem _ a.m2 (Ne.symm hm.2.1.1) (map_vec_ne h.op h.bits) (map_vec_ne h.op h.slots)), h.maps, h.dis⟩
end Go.Proofs.Ybulkgbai
