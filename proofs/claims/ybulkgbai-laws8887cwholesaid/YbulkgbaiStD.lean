import Derived.Test.YbulkgbaiStC
import Derived.LaidEqlPtr
namespace Go.Proofs.Ybulkgbai
open Go.RowKit Go.Zz Go.Maps

/-- a row that is none of the engine's is kept by Ended -/
theorem ST.after {w w' : World} {B B' eb n size : Nat} {t : TypeId} {v : Value} {f : Nat → Value} {e : EV} {D : Dat} (h : ST w B eb e D) (hk : Kept (eb :: e.inc :: e.rm :: e.ac :: e.ar :: (e.bits.ownBlock.toList ++ e.slots.ownBlock.toList)) w w') (hv : Vec w B' t size v n f) (h55 : 55 ≠ t) (h37 : 37 ≠ t) : Vec w' B' t size v n f := by
  refine hk.vec hv fun x hx => ?_
  simp only [List.mem_cons, List.mem_append, Option.mem_toList]
  rintro (e1 | e1 | e1 | e1 | e1 | e1 | e1)
  · exact vec_ne hv h.hE h55 (by rw [hx, e1])
  · exact ix_vec h.inc hv (by rw [hx, e1])
  · exact ix_vec h.rm hv (by rw [hx, e1])
  · exact ix_vec h.ac hv (by rw [hx, e1])
  · exact ix_vec h.ar hv (by rw [hx, e1])
  · exact vec_vec_ne h.bits hv h37 x e1 hx
  · exact vec_vec_ne h.slots hv h37 x e1 hx

theorem ST.after_below {w w' : World} {B eb : Nat} {e : EV} {D : Dat} (h : ST w B eb e D) (hk : Kept (eb :: e.inc :: e.rm :: e.ac :: e.ar :: (e.bits.ownBlock.toList ++ e.slots.ownBlock.toList)) w w') (hB : B ≤ w.heap.size) (hBe : B ≤ eb) (hM : B ≤ e.inc ∧ B ≤ e.rm ∧ B ≤ e.ac ∧ B ≤ e.ar) : Below B w w' := by
  refine hk.below hB fun x hx => ?_
  simp only [List.mem_cons, List.mem_append, Option.mem_toList] at hx
  rcases hx with e1 | e1 | e1 | e1 | e1 | e1 | e1
  · omega
  · omega
  · omega
  · omega
  · omega
  · exact (World.ownsRow.lt h.bits x e1).1
  · exact (World.ownsRow.lt h.slots x e1).1

/-- a row of the law's own kept where the engine's count is written -/
theorem ST.ent_vec {w : World} {B B' eb n size : Nat} {t : TypeId} {v : Value} {f : Nat → Value} {e : EV} {D : Dat} (h : ST w B eb e D) (hv : Vec w B' t size v n f) (h55 : 55 ≠ t) (u : Value) : Vec (w.setCell ⟨eb, 17, none⟩ u) B' t size v n f := vec_set hv (fun h1 => vec_ne hv h.hE h55 h1) _

theorem slot_bit (I : Nat) (ids : Nat → Nat) (fr : Nat) (s : Int) (D : Dat) (hI : D.I = I) (hids : D.ids = ids) (hI6 : I ≤ 6) (h : SF ids fr I s) : ∃ b, SlotBit D fr b ∧ b < 64 ∧ ((∃ i : Nat, i < 6 ∧ s = (i : Int) ∧ b = 2 ^ i) ∨ (s = -1 ∧ b = 0)) := by
  subst hI hids
  rcases h with ⟨i, hi, h1, h2⟩ | ⟨h1, h2⟩
  · refine ⟨2 ^ i, .inl ⟨i, hi, h1, by omega, rfl⟩, ?_, .inl ⟨i, by omega, h2, rfl⟩⟩
    rcases (show i = 0 ∨ i = 1 ∨ i = 2 ∨ i = 3 ∨ i = 4 ∨ i = 5 by omega) with rfl | rfl | rfl | rfl | rfl | rfl <;> decide
  · exact ⟨0, .inr ⟨h1, rfl⟩, by decide, .inr ⟨h2, rfl⟩⟩

theorem tot_le {m : Nat} {G : Nat → Bool} {buf : Nat → Nat} (h : ∀ j, j < m → buf j ≤ 6) : tot m G buf ≤ 6 * m := by
  induction m with
  | zero => exact Nat.le_refl _
  | succ m ih =>
    have h1 := ih fun j hj => h j (by omega)
    have h2 := h m (by omega)
    rw [tot]
    split <;> omega

theorem add_i64 (a b : Nat) (h : a + b ≤ 1000000) : Value.int .i64 (wrap64 ((a : Int) + (b : Int))) = .int .i64 ((a + b : Nat) : Int) := by
  have : wrap64 ((a : Int) + (b : Int)) = ((a + b : Nat) : Int) := by unfold wrap64; omega
  rw [this]

theorem wrap_eq (x : Int) : IntKind.i64.wrap x = wrap64 x := by
  rw [IntKind.wrap_i64]
  unfold wrap64
  omega

theorem ptr_ne (a : Addr) (w : World) : (binOp .neq 67 (.pointer (some a)) (.pointer (some a))).run Yba.prog w = .ok (.bool false) w := by
  obtain ⟨j, hj⟩ : ∃ j, Yba.prog.info? 71 = some j := Option.isSome_iff_exists.1 (by kernel_rfl)
  have h : ∀ d : Nat, (Op.equalIn (d + 1) 67 (.pointer (some a)) (.pointer (some a))).run Yba.prog w = .ok true w := fun d => by
    simp [Op.equalIn, run_underlying Yba.underlying67, sizeOf, typeInfo, hj, run_sameAddr_same]
  simp only [binOp]
  simp [Op.equal, Op.maxDepth, h 9999]

theorem nil_eq (w : World) : (binOp .eql 53 (.slice none 0 0) (.slice none 0 0)).run Yba.prog w = .ok (.bool true) w := by
  have h : ∀ d : Nat, (Op.equalIn (d + 1) 53 (.slice none 0 0) (.slice none 0 0)).run Yba.prog w = .ok true w := fun d => by
    simp [Op.equalIn, run_underlying Yba.underlying53]
  simp only [binOp]
  simp [Op.equal, Op.maxDepth, h 9999]

theorem nilI_eq (w : World) : (binOp .eql 52 .nilIface .nilIface).run Yba.prog w = .ok (.bool true) w := by
  have h : ∀ d : Nat, (Op.equalIn (d + 1) 52 .nilIface .nilIface).run Yba.prog w = .ok true w := fun d => by
    simp [Op.equalIn, run_underlying Yba.underlying52]
  simp only [binOp]
  simp [Op.equal, Op.maxDepth, h 9999]

theorem gone_ex (D : Dat) (fr : Nat) : ∃ g, Gone D fr g := by
  by_cases h : ∃ k, k < D.R ∧ D.rid k = fr
  · obtain ⟨k, hk, h1⟩ := h
    exact ⟨_, .inl ⟨k, hk, h1, rfl⟩⟩
  · exact ⟨false, .inr ⟨fun k hk h1 => h ⟨k, hk, h1⟩, rfl⟩⟩

/-- slices.Clone, slices.Sort, slices.Equal one after the other -/
theorem clone_sort_equal (B B' : Nat) (l r : List Nat) (v rv : Value) (w : World) (hv : Vec w B 3 1 v l.length (lf l)) (hr : Vec w B' 3 1 rv r.length (lf r)) (hl : l.length ≤ 4096) (hp : l.Perm r) (hs : r.Pairwise (· ≤ ·)) :
    Calls Yba.prog 16 #[v] w fun x w1 => ∃ v', x = .returned v' ∧ Calls Yba.prog 17 #[v'] w1 fun y w2 => y = .returned (.tuple #[]) ∧ Calls Yba.prog 18 #[v', rv] w2 fun z w3 => z = .returned (.bool true) ∧ Below w.heap.size w w3 := by
  refine (clone_any B l v w hv hl).mono ?_
  rintro x w1 ⟨v', rfl, h1, hb1⟩
  refine ⟨v', rfl, ?_⟩
  refine (sort_any w.heap.size l r v' w1 h1 hl hp hs).mono ?_
  rintro y w2 ⟨rfl, h2, hg2⟩
  refine ⟨rfl, ?_⟩
  have hr1 : Vec w1 B' 3 1 rv r.length (lf r) := vec_grow hr hb1
  have hr2 : Vec w2 B' 3 1 rv r.length (lf r) := by
    refine hr1.kept hg2 ?_
    cases h3 : rv.ownBlock with
    | none => exact .inl rfl
    | some q =>
      refine .inr fun e1 => ?_
      have g1 := (World.ownsRow.lt hr q h3).2
      have g2 := (World.ownsRow.lt h1 q e1.symm).1
      omega
  refine (equal_any w.heap.size B' r v' rv w2 h2 hr2 (by rw [← hp.length_eq]; exact hl)).mono ?_
  rintro z w3 ⟨rfl, hk3⟩
  have hb2 : Below w.heap.size w w2 := hb1.grown hg2 hb1.size (fun q hq => (World.ownsRow.lt h1 q hq).1)
  exact ⟨rfl, hb2.trans (hk3.below hb2.size (by simp))⟩

theorem filter_asc (N : Nat) (p : Nat → Bool) : ((List.range N).filter p).Pairwise (· ≤ ·) := by
  refine List.Pairwise.filter p ?_
  exact List.pairwise_le_range

/-- does the last link from fr go, as the law reads it -/
def GoneL (R : Nat) (rid : Nat → Nat) (rl : Nat → Int) (fr : Nat) (g : Bool) : Prop := (∃ k, k < R ∧ rid k = fr ∧ g = decide (¬ 0 < wrap64 (rl k - 1))) ∨ ((∀ k, k < R → rid k ≠ fr) ∧ g = false)

/-- which arrivals stay -/
def mvL (rid : Nat → Nat) (fr : Nat) (g : Bool) (k : Nat) : Bool := !(decide (rid k = fr) && g)
/-- which handshakes go -/
def delL (f nn : Nat → Nat) (fr n : Nat) (g : Bool) (j : Nat) : Bool := decide (f j = fr) && (decide (nn j ≤ n) || g)

/-- has the law seen it among the first t -/
def AD (rid : Nat → Nat) (fr : Nat) (g : Bool) (t : Nat) (d : Bool) : Prop := d = true ↔ ∃ k, k < t ∧ rid k = fr ∧ g = true

theorem AD.zero (rid : Nat → Nat) (fr : Nat) (g : Bool) : AD rid fr g 0 false := ⟨(fun h => by cases h), fun ⟨k, hk, _⟩ => by omega⟩
theorem AD.skip {rid : Nat → Nat} {fr : Nat} {g : Bool} {t : Nat} {d : Bool} (h : AD rid fr g t d) (hn : rid t = fr → g = false) : AD rid fr g (t + 1) d := by
  refine ⟨fun h1 => ?_, fun ⟨k, hk, h1, h2⟩ => ?_⟩
  · obtain ⟨k, hk, h2⟩ := h.1 h1
    exact ⟨k, by omega, h2⟩
  · by_cases e : k = t
    · subst e
      rw [hn h1] at h2
      cases h2
    · exact h.2 ⟨k, by omega, h1, h2⟩
theorem AD.found {rid : Nat → Nat} {fr : Nat} {g : Bool} {t : Nat} (h1 : rid t = fr) (h2 : g = true) : AD rid fr g (t + 1) true := ⟨fun _ => ⟨t, by omega, h1, h2⟩, fun _ => rfl⟩
theorem AD.done {rid : Nat → Nat} {rl : Nat → Int} {fr : Nat} {g : Bool} {R : Nat} {d : Bool} (h : AD rid fr g R d) (hg : GoneL R rid rl fr g) : d = g := by
  cases hgg : g with
  | true =>
    rcases hg with ⟨k, hk, h1, h2⟩ | ⟨_, h2⟩
    · exact h.2 ⟨k, hk, h1, hgg⟩
    · rw [hgg] at h2; cases h2
  | false =>
    cases d with
    | false => rfl
    | true =>
      obtain ⟨k, _, _, h3⟩ := h.1 rfl
      rw [hgg] at h3; cases h3

/-- the state behind Ended, as the law reads it -/
structure Fin (w : World) (B eb : Nat) (e : EV) (I : Nat) (ids : Nat → Nat) (N : Nat) (bw : Nat → Nat) (m : Nat) (f nn pa : Nat → Nat) (R : Nat) (rid : Nat → Nat) (rl : Nat → Int) (rt : Nat → Nat) (b sl fr n : Nat) (g : Bool) (fl : List Nat) : Prop where
  hE : E w eb e
  inc : IX w Yba.prog 42 e.inc I (fun i => idv (ids i)) iv (fun i => !decide (ids i = fr))
  rm : IX w Yba.prog 59 e.rm N (fun i => kv i 1) iv (fun r => !(freed (bw r) b))
  bits : Vec w B 37 1 e.bits N (fun r => .int .u64 ((dropF (bw r) b : Nat) : Int))
  slots : Vec w B 37 1 e.slots 1 (fun _ => .int .u64 ((sl &&& (18446744073709551615 - b) : Nat) : Int))
  free : Vec w B 3 1 e.free fl.length (lf fl)
  ac : IX w Yba.prog 65 e.ac m (fun j => lv (f j) (nn j)) (ptr pa) (fun j => !(delL f nn fr n g j))
  ar : IX w Yba.prog 42 e.ar R (fun k => idv (rid k)) (fun k => av (if rid k = fr then wrap64 (rl k - 1) else rl k) (if rid k = fr then max (rt k) n else rt k)) (mvL rid fr g)
  op : w.heap[e.op]? = some (.map #[] 0)
  self : e.self = 100
  outv : e.outv = .nilIface
  outg : e.outg = .slice none 0 0
  words : e.words = 1

theorem Fin.quiet {w w' : World} {B eb : Nat} {e : EV} {I : Nat} {ids : Nat → Nat} {N : Nat} {bw : Nat → Nat} {m : Nat} {f nn pa : Nat → Nat} {R : Nat} {rid : Nat → Nat} {rl : Nat → Int} {rt : Nat → Nat} {b sl fr n : Nat} {g : Bool} {fl : List Nat} (h : Fin w B eb e I ids N bw m f nn pa R rid rl rt b sl fr n g fl) (hk : Kept [] w w') : Fin w' B eb e I ids N bw m f nn pa R rid rl rt b sl fr n g fl where
  hE := hk.row h.hE (by simp)
  inc := h.inc.of_block (hk.block _ h.inc.lt (by simp))
  rm := h.rm.of_block (hk.block _ h.rm.lt (by simp))
  bits := hk.vec h.bits (by simp)
  slots := hk.vec h.slots (by simp)
  free := hk.vec h.free (by simp)
  ac := h.ac.of_block (hk.block _ h.ac.lt (by simp))
  ar := h.ar.of_block (hk.block _ h.ar.lt (by simp))
  op := (hk.block _ (Array.getElem?_eq_some_iff.1 h.op).1 (by simp)).trans h.op
  self := h.self
  outv := h.outv
  outg := h.outg
  words := h.words

theorem fin_of {w : World} {B eb : Nat} {e : EV} {I : Nat} {ids : Nat → Nat} {N : Nat} {bw : Nat → Nat} {m : Nat} {f nn pa la lb : Nat → Nat} {R : Nat} {rid : Nat → Nat} {rl : Nat → Int} {rt : Nat → Nat} {b sl fr n : Nat} {g : Bool} {fl : List Nat} (h : ST w B eb e (endD (mkD I ids sl N bw m f nn pa la lb R rid rl rt) fr n b g fl)) (h1 : e.self = 100) (h2 : e.outv = .nilIface) (h3 : e.outg = .slice none 0 0) (h4 : e.words = 1) : Fin w B eb e I ids N bw m f nn pa R rid rl rt b sl fr n g fl :=
  ⟨h.hE, h.inc, h.rm, h.bits, h.slots, h.free, h.ac, h.ar, h.op, h1, h2, h3, h4⟩
end Go.Proofs.Ybulkgbai
