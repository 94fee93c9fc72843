import Derived.Test.YbulkgbaiStB
namespace Go.Proofs.Ybulkgbai
open Go.RowKit Go.Zz Go.Maps

theorem info42 : (Yba.prog.info? 42).map (fun i => (i.zero, i.size, i.bytes)) = some (some (.int .u32 0), 1, 4) := by kernel_rfl
theorem info65 : (Yba.prog.info? 65).map (fun i => (i.zero, i.size, i.bytes)) = some (some (.agg #[.int .u32 0, .int .u64 0]), 2, 16) := by kernel_rfl
theorem info67 : (Yba.prog.info? 67).map (fun i => (i.zero, i.size, i.bytes)) = some (some (.pointer none), 1, 8) := by kernel_rfl
theorem info76 : (Yba.prog.info? 76).map (fun i => (i.zero, i.size, i.bytes)) = some (some (.agg #[.int .i64 0, .int .u64 0]), 2, 16) := by kernel_rfl

theorem info141 : (Yba.prog.info? 141).map (fun i => (i.zero, i.size, i.bytes)) = some (some (.agg #[.int .u32 0, .int .u32 0, .int .u64 0, .slice none 0 0]), 4, 40) := by kernel_rfl

theorem make68 (n : Nat) (h : n < 4) (w : World) : (Instr.makeSlice 68 (.int .i64 (n : Int)) (.int .i64 (n : Int))).run Yba.prog w = .ok (.slice (some ⟨w.heap.size, 0, none⟩) n n) (w.alloc (.cells (madeCells #[.int .u32 0, .int .u32 0, .int .u64 0, .slice none 0 0] (n * 4)) 141)) :=
  run_make_any Yba.prog 68 141 _ _ 4 40 Yba.underlying68 info141 rfl n (by omega) (by omega) w

theorem alloc4 (w : World) (v0 v1 v2 v3 : Value) (t : TypeId) : (w.alloc (.cells #[v0, v1, v2, v3] t)).rowIs w.heap.size t 4 (fun i => if i = 0 then v0 else if i = 1 then v1 else if i = 2 then v2 else v3) :=
  ⟨_, Deep.blk_alloc_new _ _, rfl, fun i hi => by rcases i with _ | _ | _ | _ | i <;> first | rfl | omega⟩
theorem alloc2 (w : World) (v0 v1 : Value) (t : TypeId) : (w.alloc (.cells #[v0, v1] t)).rowIs w.heap.size t 2 (fun i => if i = 0 then v0 else v1) :=
  ⟨_, Deep.blk_alloc_new _ _, rfl, fun i hi => by rcases i with _ | _ | i <;> first | rfl | omega⟩
theorem alloc3 (w : World) (v0 v1 v2 : Value) (t : TypeId) : (w.alloc (.cells #[v0, v1, v2] t)).rowIs w.heap.size t 3 (fun i => if i = 0 then v0 else if i = 1 then v1 else v2) :=
  ⟨_, Deep.blk_alloc_new _ _, rfl, fun i hi => by rcases i with _ | _ | _ | i <;> first | rfl | omega⟩

theorem alloc_at (w : World) (o1 o2 : Obj) (v0 v1 v2 v3 : Value) (t : TypeId) : ((((w.alloc o1).alloc o2).alloc (.cells #[v0, v1, v2, v3] t)).drew).rowIs (w.heap.size + 1 + 1) t 4 (fun i => if i = 0 then v0 else if i = 1 then v1 else if i = 2 then v2 else v3) := by
  have := alloc4 ((w.alloc o1).alloc o2) v0 v1 v2 v3 t
  rw [Deep.nblk_alloc, Deep.nblk_alloc] at this
  exact this

theorem q_gen {Q : Exit → Act → World → Prop} {x : Exit} {a : Act} {w : World} (h : ∀ w', w' = w → Q x a w') : Q x a w := h w rfl

theorem snoc_bound {f : Nat → Nat} {m z K : Nat} (h : ∀ j, f j ≤ K) (hz : z ≤ K) (j : Nat) : snoc f m z j ≤ K := by
  unfold snoc
  split
  · exact hz
  · exact h j

theorem kf2_snoc_lt {f nn : Nat → Nat} {m y z j : Nat} (h : j < m * 2) : kf2 (snoc f m y) (snoc nn m z) j = kf2 f nn j := by
  unfold kf2
  rw [snoc_lt (by omega), snoc_lt (by omega)]

theorem kf2_snoc_eq {f nn : Nat → Nat} {m y z j : Nat} (h : j < 2) : kf2 (snoc f m y) (snoc nn m z) (m * 2 + j) = (#[Value.int .u32 (y : Int), .int .u64 (z : Int)]).getD j undef := by
  rcases (show j = 0 ∨ j = 1 by omega) with rfl | rfl
  · rw [Nat.add_zero, kf2_0, snoc_eq]; rfl
  · rw [kf2_1, snoc_eq]; rfl

/-- the cells of a row of arrivals -/
def af2 (rl : Nat → Int) (rt : Nat → Nat) (c : Nat) : Value := if c % 2 = 0 then .int .i64 (rl (c / 2)) else .int .u64 (rt (c / 2) : Int)

theorem af2_0 (f : Nat → Int) (nn : Nat → Nat) (t : Nat) : af2 f nn (t * 2) = .int .i64 (f t) := by
  unfold af2
  rw [if_pos (by omega), show t * 2 / 2 = t by omega]
theorem af2_1 (f : Nat → Int) (nn : Nat → Nat) (t : Nat) : af2 f nn (t * 2 + 1) = .int .u64 (nn t : Int) := by
  unfold af2
  rw [if_neg (by omega), show (t * 2 + 1) / 2 = t by omega]

theorem af2_snoc_lt {f : Nat → Int} {nn : Nat → Nat} {m z j : Nat} {y : Int} (h : j < m * 2) : af2 (snoc f m y) (snoc nn m z) j = af2 f nn j := by
  unfold af2
  rw [snoc_lt (by omega), snoc_lt (by omega)]

theorem af2_snoc_eq {f : Nat → Int} {nn : Nat → Nat} {m z j : Nat} {y : Int} (h : j < 2) : af2 (snoc f m y) (snoc nn m z) (m * 2 + j) = (#[Value.int .i64 y, .int .u64 (z : Int)]).getD j undef := by
  rcases (show j = 0 ∨ j = 1 by omega) with rfl | rfl
  · rw [Nat.add_zero, af2_0, snoc_eq]; rfl
  · rw [af2_1, snoc_eq]; rfl

/-- vec of another tag kept by an append -/
theorem vec_app {w w' : World} {B B' n n' size size' : Nat} {t t' : TypeId} {v v' : Value} {f f' : Nat → Value} (h : Vec w B t size v n f) (hv : Vec w B' t' size' v' n' f') (ht : t ≠ t') (hg : w.grownBy w' v'.ownBlock) : Vec w' B t size v n f := by
  refine h.kept hg ?_
  cases h1 : v.ownBlock with
  | none => exact .inl rfl
  | some z => exact .inr (fun e1 => vec_vec_ne h hv ht z h1 e1.symm)

theorem row_app {w w' : World} {B' n n' size' b : Nat} {t t' : TypeId} {v' : Value} {f f' : Nat → Value} (h : w.rowIs b t n f) (hv : Vec w B' t' size' v' n' f') (ht : t ≠ t') (hg : w.grownBy w' v'.ownBlock) : w'.rowIs b t n f :=
  rowIs_grown h hg (fun e1 => vec_ne hv h ht e1.symm)

theorem below_app {w w' w0 : World} {B n size : Nat} {t : TypeId} {v : Value} {f : Nat → Value} (hv : Vec w B t size v n f) (hg : w.grownBy w' v.ownBlock) (hb : Below B w0 w) (hB : B ≤ w.heap.size) : Below B w0 w' := hb.grown hg hB (fun q hq => (World.ownsRow.lt hv q hq).1)

/-- one handshake more -/
theorem ST.acc {wD : World} {B eb : Nat} {e : EV} {I : Nat} {ids : Nat → Nat} {sl N : Nat} {bw : Nat → Nat} {m : Nat} {f nn pa la lb : Nat → Nat} {ak ap ab vi : Value} (h : ST wD B eb e (mkD I ids sl N bw m f nn pa la lb 0 (fun _ => 0) (fun _ => 0) (fun _ => 0)))
    (h27 : Vec wD B 65 2 ak m (kf2 f nn)) (h28 : Vec wD B 67 1 ap m (ptr pa)) (h29 : Vec wD B 3 1 ab m (fun j => iv (la j + lb j))) (h17 : Vec wD B 42 1 vi I (fun i => idv (ids i))) (y z p la' lb' kb ab0 : Nat) (F G : Nat → Value) (hy : y < 6) (hz : z < 18446744073709551616) (hno : ∀ i, i < m → ¬ (f i = y ∧ nn i = z))
    (hrow : wD.rowIs p 71 4 F) {aa ab' : Option Addr} {ca cb : Nat} (hF2 : F 2 = .slice aa la' ca) (hF3 : F 3 = .slice ab' lb' cb) (hla : la' < 4) (hlb : lb' < 4) (hkb : wD.rowIs kb 65 2 (kf2 (fun _ => y) (fun _ => z))) (hab : wD.rowIs ab0 63 4 G) (hm : m + 1 ≤ 4096) (hB : B ≤ wD.heap.size) (hac : B ≤ e.ac) (hfree : e.free = .slice none 0 0) :
    ∃ wE, (Instr.mapUpdate 49 (.map (some e.ac)) (lv y z) (.pointer (some ⟨p, 0, none⟩))).run Yba.prog wD.drew = .ok () wE ∧ wE.rowIs kb 65 2 (kf2 (fun _ => y) (fun _ => z)) ∧
      ∃ b1 c1 w1, (Builtin.append_ #[60, 60] 60 #[ak, .slice (some ⟨wE.heap.size, 0, none⟩) 1 1]).run Yba.prog (wE.alloc (.cells #[.int .u32 (y : Int), .int .u64 (z : Int)] 65)) = .ok (.slice (some ⟨b1, 0, none⟩) (m + 1) c1) w1 ∧
      ∃ b2 c2 w2, (Builtin.append_ #[61, 61] 61 #[ap, .slice (some ⟨w1.heap.size, 0, none⟩) 1 1]).run Yba.prog (w1.alloc (.cells #[.pointer (some ⟨p, 0, none⟩)] 67)) = .ok (.slice (some ⟨b2, 0, none⟩) (m + 1) c2) w2 ∧ w2.rowIs ab0 63 4 G ∧
      ∃ b3 c3 w3, (Builtin.append_ #[22, 22] 22 #[ab, .slice (some ⟨w2.heap.size, 0, none⟩) 1 1]).run Yba.prog (w2.alloc (.cells #[iv (la' + lb')] 3)) = .ok (.slice (some ⟨b3, 0, none⟩) (m + 1) c3) w3 ∧
        ST w3 B eb e (mkD I ids sl N bw (m + 1) (snoc f m y) (snoc nn m z) (snoc pa m p) (snoc la m la') (snoc lb m lb') 0 (fun _ => 0) (fun _ => 0) (fun _ => 0)) ∧
        Vec w3 B 65 2 (.slice (some ⟨b1, 0, none⟩) (m + 1) c1) (m + 1) (kf2 (snoc f m y) (snoc nn m z)) ∧ Vec w3 B 67 1 (.slice (some ⟨b2, 0, none⟩) (m + 1) c2) (m + 1) (ptr (snoc pa m p)) ∧
        Vec w3 B 3 1 (.slice (some ⟨b3, 0, none⟩) (m + 1) c3) (m + 1) (fun j => iv (snoc la m la' j + snoc lb m lb' j)) ∧ Vec w3 B 42 1 vi I (fun i => idv (ids i)) ∧ ∀ w0, Below B w0 wD → Below B w0 w3 := by
  have hfr : ∀ x : Nat, e.free.ownBlock ≠ some x := fun x => by rw [hfree]; simp [Value.ownBlock]
  have hix : IX wD.drew Yba.prog 65 e.ac m (fun j => lv (f j) (nn j)) (ptr pa) (fun _ => true) := h.ac
  obtain ⟨kl, hkl⟩ := lv_key y z (by omega) hz
  obtain ⟨wE, hup, hn, hg⟩ := IX.store k65 Yba.underlying49 (e := 67) hix (by omega) (key := lv y z) (val := .pointer (some ⟨p, 0, none⟩)) hkl (fun j hj e1 => hno j hj (lv_inj e1)) (K' := fun j => lv (snoc f m y j) (snoc nn m z j)) (V' := ptr (snoc pa m p)) (M' := fun _ => true)
    (fun j hj => by rw [snoc_lt hj, snoc_lt hj]) (fun j hj => by unfold ptr; rw [snoc_lt hj]) (fun _ _ => rfl) (by rw [snoc_eq, snoc_eq]) (by unfold ptr; rw [snoc_eq]) rfl
  have hkE : Kept [e.ac] wD wE := (Kept.refl [e.ac] wD).drew.grown hg (fun x hx => .inl (by simp at hx; simp [hx]))
  have hpne : p ≠ e.ac := fun e1 => ix_ne (w := wD) h.ac hrow e1.symm
  have hA : AS wE (m + 1) (snoc pa m p) (snoc la m la') (snoc lb m lb') := fun j hj => by
    by_cases e1 : j = m
    · subst e1
      rw [snoc_eq, snoc_eq, snoc_eq]
      exact ⟨hla, hlb, F, aa, ca, ab', cb, hkE.row hrow (by simp [hpne]), hF2, hF3⟩
    · rw [snoc_lt (by omega), snoc_lt (by omega), snoc_lt (by omega)]
      have hj' : j < m := by omega
      obtain ⟨g1, g2, F', x1, x2, x3, x4, g3, g4⟩ := h.has j hj'
      exact ⟨g1, g2, F', x1, x2, x3, x4, hkE.row g3 (by simp only [List.mem_singleton]; exact h.has.ix_ne hj' h.ac), g4⟩
  have hE := h.put_ac2 hkE hn hA
  have hbE : ∀ w0, Below B w0 wD → Below B w0 wE := fun w0 hb => (hb.trans ((Kept.below hkE hB (by simpa using hac))))
  have hsE := hkE.size
  have v17 := hkE.vec h17 (fun x hx => by simpa using fun e1 => ix_vec h.ac h17 (by rw [hx, e1]))
  have v27 := hkE.vec h27 (fun x hx => by simpa using fun e1 => ix_vec h.ac h27 (by rw [hx, e1]))
  have v28 := hkE.vec h28 (fun x hx => by simpa using fun e1 => ix_vec h.ac h28 (by rw [hx, e1]))
  have v29 := hkE.vec h29 (fun x hx => by simpa using fun e1 => ix_vec h.ac h29 (by rw [hx, e1]))
  have rk := hkE.row hkb (by simpa using fun e1 => ix_ne (w := wD) h.ac hkb e1.symm)
  have ra := hkE.row hab (by simpa using fun e1 => ix_ne (w := wD) h.ac hab e1.symm)
  obtain ⟨b1, c1, w1, hap1, hV1, hg1, _⟩ := app1 wE B 60 65 _ 2 16 Yba.underlying60 info65 rfl (by decide) ak m _ (kf2 (snoc f m y) (snoc nn m z)) v27 #[.int .u32 (y : Int), .int .u64 (z : Int)] rfl (fun j hj => by rcases (show j = 0 ∨ j = 1 by omega) with rfl | rfl <;> rfl) (fun j hj => kf2_snoc_lt hj) (fun j hj => kf2_snoc_eq hj) hm (by decide) (by omega)
  have hs1 := hg1.size
  have S1 := hE.app v27 (by decide) (by decide) (by decide) (fun x _ => hfr x) hg1
  have u17 := vec_app v17 v27 (by decide) hg1
  have u28 := vec_app v28 v27 (by decide) hg1
  have u29 := vec_app v29 v27 (by decide) hg1
  have ua := row_app ra v27 (by decide) hg1
  obtain ⟨b2, c2, w2, hap2, hV2, hg2, _⟩ := app1 w1 B 61 67 _ 1 8 Yba.underlying61 info67 rfl (by decide) ap m _ (ptr (snoc pa m p)) u28 #[.pointer (some ⟨p, 0, none⟩)] rfl (fun j hj => by (obtain rfl : j = 0 := by omega); rfl) (fun j hj => by unfold ptr; rw [snoc_lt (by omega)]) (fun j hj => by (obtain rfl : j = 0 := by omega); rw [Nat.mul_one, Nat.add_zero]; unfold ptr; rw [snoc_eq]; rfl) hm (by decide) (by omega)
  have hs2 := hg2.size
  have S2 := S1.app u28 (by decide) (by decide) (by decide) (fun x _ => hfr x) hg2
  have t17 := vec_app u17 u28 (by decide) hg2
  have t27 := vec_app hV1 u28 (by decide) hg2
  have t29 := vec_app u29 u28 (by decide) hg2
  have ta := row_app ua u28 (by decide) hg2
  obtain ⟨b3, c3, w3, hap3, hV3, hg3, _⟩ := app1 w2 B 22 3 _ 1 8 Yba.underlying22 info3 rfl (by decide) ab m _ (fun j => iv (snoc la m la' j + snoc lb m lb' j)) t29 #[iv (la' + lb')] rfl (fun j hj => by (obtain rfl : j = 0 := by omega); rfl) (fun j hj => by rw [snoc_lt (by omega), snoc_lt (by omega)]) (fun j hj => by (obtain rfl : j = 0 := by omega); rw [Nat.mul_one, Nat.add_zero, snoc_eq, snoc_eq]; rfl) hm (by decide) (by omega)
  have S3 := S2.app t29 (by decide) (by decide) (by decide) (fun x _ => hfr x) hg3
  refine ⟨wE, hup, rk, b1, c1, w1, hap1, b2, c2, w2, hap2, ta, b3, c3, w3, hap3, S3, vec_app t27 t29 (by decide) hg3, vec_app hV2 t29 (by decide) hg3, hV3, vec_app t17 t29 (by decide) hg3, fun w0 hb => ?_⟩
  exact below_app t29 hg3 (below_app u28 hg2 (below_app v27 hg1 (hbE w0 hb) (by omega)) (by omega)) (by omega)

/-- one arrival more -/
theorem ST.arr {wD : World} {B B5 eb : Nat} {e : EV} {I : Nat} {ids : Nat → Nat} {sl N : Nat} {bw : Nat → Nat} {m : Nat} {f nn pa la lb : Nat → Nat} {R : Nat} {rid : Nat → Nat} {rl : Nat → Int} {rt : Nat → Nat} {ak ap ab vi ri rv : Value} (h : ST wD B eb e (mkD I ids sl N bw m f nn pa la lb R rid rl rt))
    (h27 : Vec wD B 65 2 ak m (kf2 f nn)) (h28 : Vec wD B 67 1 ap m (ptr pa)) (h29 : Vec wD B 3 1 ab m (fun j => iv (la j + lb j))) (h17 : Vec wD B 42 1 vi I (fun i => idv (ids i))) (h34 : Vec wD B5 42 1 ri R (fun i => idv (rid i))) (hrs : Nat → Value) (h35 : Vec wD B 76 2 rv R hrs) (hvi : ∀ x, vi.ownBlock = some x → x < B5) (hB5 : B ≤ B5)
    (y : Nat) (l : Int) (t vb : Nat) (hrs' : Nat → Value) (hy : y < 6) (hno : ∀ i, i < R → rid i ≠ y) (hvb : wD.rowIs vb 76 2 (fun i => if i = 0 then .int .i64 l else .int .u64 (t : Int))) (h1 : ∀ j, j < R * 2 → hrs' j = hrs j) (h2 : ∀ j, j < 2 → hrs' (R * 2 + j) = (#[Value.int .i64 l, .int .u64 (t : Int)]).getD j undef)
    (hm : R + 1 ≤ 4096) (hB : B5 ≤ wD.heap.size) (hac : B ≤ e.ar) (hfree : e.free = .slice none 0 0) :
    ∃ wE, (Instr.mapUpdate 50 (.map (some e.ar)) (idv y) (av l t)).run Yba.prog wD.drew = .ok () wE ∧
      ∃ b1 c1 w1, (Builtin.append_ #[56, 56] 56 #[ri, .slice (some ⟨wE.heap.size, 0, none⟩) 1 1]).run Yba.prog (wE.alloc (.cells #[.int .u32 (y : Int)] 42)) = .ok (.slice (some ⟨b1, 0, none⟩) (R + 1) c1) w1 ∧ w1.rowIs vb 76 2 (fun i => if i = 0 then .int .i64 l else .int .u64 (t : Int)) ∧
      ∃ b2 c2 w2, (Builtin.append_ #[72, 72] 72 #[rv, .slice (some ⟨w1.heap.size, 0, none⟩) 1 1]).run Yba.prog (w1.alloc (.cells #[.int .i64 l, .int .u64 (t : Int)] 76)) = .ok (.slice (some ⟨b2, 0, none⟩) (R + 1) c2) w2 ∧
        ST w2 B eb e (mkD I ids sl N bw m f nn pa la lb (R + 1) (snoc rid R y) (snoc rl R l) (snoc rt R t)) ∧
        Vec w2 B 65 2 ak m (kf2 f nn) ∧ Vec w2 B 67 1 ap m (ptr pa) ∧ Vec w2 B 3 1 ab m (fun j => iv (la j + lb j)) ∧ Vec w2 B 42 1 vi I (fun i => idv (ids i)) ∧
        Vec w2 B5 42 1 (.slice (some ⟨b1, 0, none⟩) (R + 1) c1) (R + 1) (fun i => idv (snoc rid R y i)) ∧ Vec w2 B 76 2 (.slice (some ⟨b2, 0, none⟩) (R + 1) c2) (R + 1) hrs' ∧ (rv.ownBlock = some b2 ∨ wD.heap.size ≤ b2) ∧ wD.heap.size ≤ w2.heap.size ∧ ∀ w0, Below B w0 wD → Below B w0 w2 := by
  have hfr : ∀ x : Nat, e.free.ownBlock ≠ some x := fun x => by rw [hfree]; simp [Value.ownBlock]
  have hix : IX wD.drew Yba.prog 42 e.ar R (fun j => idv (rid j)) (fun k => av (rl k) (rt k)) (fun _ => true) := h.ar
  obtain ⟨kl, hkl⟩ := idv_key y (by omega)
  obtain ⟨wE, hup, hn, hg⟩ := IX.store k42 Yba.underlying50 (e := 76) hix (by omega) (key := idv y) (val := av l t) hkl (fun j hj e1 => hno j hj (idv_inj e1)) (K' := fun j => idv (snoc rid R y j)) (V' := fun k => av (snoc rl R l k) (snoc rt R t k)) (M' := fun _ => true)
    (fun j hj => by rw [snoc_lt hj]) (fun j hj => by rw [snoc_lt hj, snoc_lt hj]) (fun _ _ => rfl) (by rw [snoc_eq]) (by rw [snoc_eq, snoc_eq]) rfl
  have hkE : Kept [e.ar] wD wE := (Kept.refl [e.ar] wD).drew.grown hg (fun x hx => .inl (by simp at hx; simp [hx]))
  have hE := h.put_ar2 hkE hn
  have hbE : ∀ w0, Below B w0 wD → Below B w0 wE := fun w0 hb => (hb.trans ((Kept.below hkE (by omega) (by simpa using hac))))
  have hsE := hkE.size
  have v17 := hkE.vec h17 (fun x hx => by simpa using fun e1 => ix_vec h.ar h17 (by rw [hx, e1]))
  have v27 := hkE.vec h27 (fun x hx => by simpa using fun e1 => ix_vec h.ar h27 (by rw [hx, e1]))
  have v28 := hkE.vec h28 (fun x hx => by simpa using fun e1 => ix_vec h.ar h28 (by rw [hx, e1]))
  have v29 := hkE.vec h29 (fun x hx => by simpa using fun e1 => ix_vec h.ar h29 (by rw [hx, e1]))
  have v34 := hkE.vec h34 (fun x hx => by simpa using fun e1 => ix_vec h.ar h34 (by rw [hx, e1]))
  have v35 := hkE.vec h35 (fun x hx => by simpa using fun e1 => ix_vec h.ar h35 (by rw [hx, e1]))
  have rk := hkE.row hvb (by simpa using fun e1 => ix_ne (w := wD) h.ar hvb e1.symm)
  obtain ⟨b1, c1, w1, hap1, hV1, hg1, _⟩ := app1 wE B5 56 42 _ 1 4 Yba.underlying56 info42 rfl (by decide) ri R _ (fun i => idv (snoc rid R y i)) v34 #[.int .u32 (y : Int)] rfl (fun j hj => by (obtain rfl : j = 0 := by omega); rfl) (fun j hj => by rw [snoc_lt (by omega)]) (fun j hj => by (obtain rfl : j = 0 := by omega); rw [Nat.mul_one, Nat.add_zero, snoc_eq]; rfl) hm (by decide) (by omega)
  have hs1 := hg1.size
  have S1 := hE.app v34 (by decide) (by decide) (by decide) (fun x _ => hfr x) hg1
  have u17 := v17.kept hg1 (by
    cases h1 : vi.ownBlock with
    | none => exact .inl rfl
    | some q =>
      refine .inr fun e1 => ?_
      have := hvi q h1
      have := (World.ownsRow.lt v34 q e1.symm).1
      omega)
  have u27 := vec_app v27 v34 (by decide) hg1
  have u28 := vec_app v28 v34 (by decide) hg1
  have u29 := vec_app v29 v34 (by decide) hg1
  have u35 := vec_app v35 v34 (by decide) hg1
  have ua := row_app rk v34 (by decide) hg1
  obtain ⟨b2, c2, w2, hap2, hV2, hg2, hat2⟩ := app1 w1 B 72 76 _ 2 16 Yba.underlying72 info76 rfl (by decide) rv R _ hrs' u35 #[.int .i64 l, .int .u64 (t : Int)] rfl (fun j hj => by rcases (show j = 0 ∨ j = 1 by omega) with rfl | rfl <;> rfl) h1 h2 hm (by decide) (by omega)
  have hs2 := hg2.size
  have S2 := S1.app u35 (by decide) (by decide) (by decide) (fun x _ => hfr x) hg2
  refine ⟨wE, hup, b1, c1, w1, hap1, ua, b2, c2, w2, hap2, S2, vec_app u27 u35 (by decide) hg2, vec_app u28 u35 (by decide) hg2, vec_app u29 u35 (by decide) hg2, vec_app u17 u35 (by decide) hg2, vec_app hV1 u35 (by decide) hg2, hV2, hat2.imp id (fun h => by omega), by omega, fun w0 hb => ?_⟩
  refine below_app u35 hg2 ?_ (by omega)
  exact (hbE w0 hb).grown hg1 (by omega) (fun q hq => Nat.le_trans hB5 (World.ownsRow.lt v34 q hq).1)
end Go.Proofs.Ybulkgbai
