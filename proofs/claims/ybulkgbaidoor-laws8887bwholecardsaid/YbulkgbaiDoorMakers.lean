import Derived.Test.YbulkgbaiDoorBcast
import Derived.Deep.RegionWith
namespace Go.Proofs.YbulkgbaiDoor
open Go.RowKit Go.Zz Go.Maps

def MapE (w : World) (b : Nat) : Prop := w.heap[b]? = some (.map #[] 0)

theorem MapE.new {w : World} {b : Nat} (h : b = w.heap.size) : MapE (w.alloc (.map #[] 0)) b := by
  rw [h]
  exact Deep.blk_alloc_new _ _
theorem MapE.lt {w : World} {b : Nat} (h : MapE w b) : b < w.heap.size := (Array.getElem?_eq_some_iff.1 h).1
theorem MapE.alloc {w : World} {b : Nat} (h : MapE w b) (o : Obj) : MapE (w.alloc o) b := (Deep.blk_alloc_lt _ _ _ h.lt).trans h
theorem MapE.below {w w' : World} {b : Nat} (h : MapE w b) (hb : Below w.heap.size w w') : MapE w' b := (hb.block _ h.lt).trans h

/-- what newCopies leaves: the value of its slot -/
def cpV (r s : Nat) : Value := .agg #[.map (some r), .slice none 0 0, .slice none 0 0, .int .i64 1, .slice (some ⟨s, 0, none⟩) 1 1]

/-- the five makers: which have come up (a number is the block) -/
structure Mk where
  i : Option Nat
  c : Option (Nat × Nat)
  p : Option Nat
  a : Option Nat
  v : Option Nat

def mapV : Option Nat → Value
  | none => undef
  | some b => .map (some b)
def copV : Option (Nat × Nat) → Value
  | none => undef
  | some (r, s) => cpV r s

/-- what is known of them in the world w; B: the heap's size when the region began -/
structure MkI (B : Nat) (w0 w : World) (m : Mk) : Prop where
  bel : Below B w0 w
  sz : B ≤ w.heap.size
  hi : ∀ b, m.i = some b → MapE w b ∧ B ≤ b
  hc : ∀ r s, m.c = some (r, s) → MapE w r ∧ B ≤ r ∧ w.rowIs s 33 1 (fun _ => .int .u64 0) ∧ B ≤ s
  hp : ∀ b, m.p = some b → MapE w b ∧ B ≤ b
  ha : ∀ b, m.a = some b → MapE w b ∧ B ≤ b
  n1 : ∀ b r s, m.i = some b → m.c = some (r, s) → b ≠ r
  n2 : ∀ b b', m.i = some b → m.p = some b' → b ≠ b'
  n3 : ∀ b b', m.i = some b → m.a = some b' → b ≠ b'
  n4 : ∀ b r s, m.p = some b → m.c = some (r, s) → b ≠ r
  n5 : ∀ b r s, m.a = some b → m.c = some (r, s) → b ≠ r

theorem MkI.start (w : World) : MkI w.heap.size w w.drew ⟨none, none, none, none, none⟩ :=
  ⟨(Below.refl _ _).drew, Nat.le_refl _, (fun _ h => by cases h), (fun _ _ h => by cases h), (fun _ h => by cases h), (fun _ h => by cases h), (fun _ _ _ h => by cases h), (fun _ _ h => by cases h), (fun _ _ h => by cases h), (fun _ _ _ h => by cases h), (fun _ _ _ h => by cases h)⟩

theorem MkI.grow {B : Nat} {w0 w w' : World} {m : Mk} (h : MkI B w0 w m) (hb : Below w.heap.size w w') : MkI B w0 w' m :=
  ⟨h.bel.trans (hb.mono h.sz), Nat.le_trans h.sz hb.size, fun b e => ⟨(h.hi b e).1.below hb, (h.hi b e).2⟩, fun r s e => ⟨(h.hc r s e).1.below hb, (h.hc r s e).2.1, (Kept.of_below (S := []) hb).row (h.hc r s e).2.2.1 (by simp), (h.hc r s e).2.2.2⟩,
    fun b e => ⟨(h.hp b e).1.below hb, (h.hp b e).2⟩, fun b e => ⟨(h.ha b e).1.below hb, (h.ha b e).2⟩, h.n1, h.n2, h.n3, h.n4, h.n5⟩

theorem below_new (w : World) (o : Obj) : Below w.heap.size w (w.alloc o) := (Below.refl _ _).alloc (Nat.le_refl _) _

theorem MkI.mapI {B : Nat} {w0 w : World} {m : Mk} (h : MkI B w0 w m) : MkI B w0 (w.alloc (.map #[] 0)) { m with i := some w.heap.size } := by
  have g := h.grow (below_new w (.map #[] 0))
  refine ⟨g.bel, g.sz, fun b e => ?_, g.hc, g.hp, g.ha, fun b r s e1 e2 => ?_, fun b b' e1 e2 => ?_, fun b b' e1 e2 => ?_, g.n4, g.n5⟩
  · cases e
    exact ⟨MapE.new rfl, h.sz⟩
  · cases e1
    have := (h.hc r s e2).1.lt
    omega
  · cases e1
    have := (h.hp b' e2).1.lt
    omega
  · cases e1
    have := (h.ha b' e2).1.lt
    omega

theorem MkI.mapP {B : Nat} {w0 w : World} {m : Mk} (h : MkI B w0 w m) : MkI B w0 (w.alloc (.map #[] 0)) { m with p := some w.heap.size } := by
  have g := h.grow (below_new w (.map #[] 0))
  refine ⟨g.bel, g.sz, g.hi, g.hc, fun b e => ?_, g.ha, g.n1, fun b b' e1 e2 => ?_, g.n3, fun b r s e1 e2 => ?_, g.n5⟩
  · cases e
    exact ⟨MapE.new rfl, h.sz⟩
  · cases e2
    have := (h.hi b e1).1.lt
    omega
  · cases e1
    have := (h.hc r s e2).1.lt
    omega

theorem MkI.mapA {B : Nat} {w0 w : World} {m : Mk} (h : MkI B w0 w m) : MkI B w0 (w.alloc (.map #[] 0)) { m with a := some w.heap.size } := by
  have g := h.grow (below_new w (.map #[] 0))
  refine ⟨g.bel, g.sz, g.hi, g.hc, g.hp, fun b e => ?_, g.n1, g.n2, fun b b' e1 e2 => ?_, g.n4, fun b r s e1 e2 => ?_⟩
  · cases e
    exact ⟨MapE.new rfl, h.sz⟩
  · cases e2
    have := (h.hi b e1).1.lt
    omega
  · cases e1
    have := (h.hc r s e2).1.lt
    omega

theorem MkI.mapV {B : Nat} {w0 w : World} {m : Mk} (h : MkI B w0 w m) (b : Nat) : MkI B w0 (w.alloc (.map #[] 0)) { m with v := some b } :=
  let g := h.grow (below_new w (.map #[] 0))
  ⟨g.bel, g.sz, g.hi, g.hc, g.hp, g.ha, g.n1, g.n2, g.n3, g.n4, g.n5⟩

theorem MkI.cop {B : Nat} {w0 w w' : World} {m : Mk} {r s : Nat} (h : MkI B w0 w m) (hb : Below w.heap.size w w') (hr : MapE w' r) (hs : w'.rowIs s 33 1 (fun _ => .int .u64 0)) (hr2 : w.heap.size ≤ r) (hs2 : w.heap.size ≤ s) : MkI B w0 w' { m with c := some (r, s) } := by
  have g := h.grow hb
  refine ⟨g.bel, g.sz, g.hi, fun r' s' e => ?_, g.hp, g.ha, fun b r' s' e1 e2 => ?_, g.n2, g.n3, fun b r' s' e1 e2 => ?_, fun b r' s' e1 e2 => ?_⟩
  · cases e
    exact ⟨hr, Nat.le_trans h.sz hr2, hs, Nat.le_trans h.sz hs2⟩
  · cases e2
    have := (h.hi b e1).1.lt
    omega
  · cases e2
    have := (h.hp b e1).1.lt
    omega
  · cases e2
    have := (h.ha b e1).1.lt
    omega

/-- how many have still to come up -/
def Mk.left (m : Mk) : Nat := (if m.i.isSome then 0 else 1) + (if m.c.isSome then 0 else 1) + (if m.p.isSome then 0 else 1) + (if m.a.isSome then 0 else 1) + (if m.v.isSome then 0 else 1)

def rdy (b5 b6 b7 b8 b9 : Bool) : List Nat := (if b5 then [] else [5]) ++ (if b6 then [] else [6]) ++ (if b7 then [] else [7]) ++ (if b8 then [] else [8]) ++ (if b9 then [] else [9])

/-- THE FIVE MAKERS IN WHATEVER ORDER: from each state one step, and what stands behind the last -/
theorem makers5 {ops : Array Oper} {Q : Exit → Act → World → Prop} {B : Nat} {w0 : World} (L : Bool → Bool → Bool → Bool → Bool → Array Bool) (Fr : Value → Value → Value → Value → Value → Act)
    (hr : ∀ b5 b6 b7 b8 b9, rdy b5 b6 b7 b8 b9 ≠ [] → Region.ready .any ops (L b5 b6 b7 b8 b9) = rdy b5 b6 b7 b8 b9)
    (hL5 : ∀ b5 b6 b7 b8 b9, (L b5 b6 b7 b8 b9).setIfInBounds 5 true = L true b6 b7 b8 b9) (hL6 : ∀ b5 b6 b7 b8 b9, (L b5 b6 b7 b8 b9).setIfInBounds 6 true = L b5 true b7 b8 b9)
    (hL7 : ∀ b5 b6 b7 b8 b9, (L b5 b6 b7 b8 b9).setIfInBounds 7 true = L b5 b6 true b8 b9) (hL8 : ∀ b5 b6 b7 b8 b9, (L b5 b6 b7 b8 b9).setIfInBounds 8 true = L b5 b6 b7 true b9)
    (hL9 : ∀ b5 b6 b7 b8 b9, (L b5 b6 b7 b8 b9).setIfInBounds 9 true = L b5 b6 b7 b8 true)
    (h5 : ∀ o5 o6 o7 o8 o9 w K, K (Fr (.map (some w.heap.size)) o6 o7 o8 o9) (w.alloc (.map #[] 0)) → wpOp Ybad.prog ops Q 5 K (Fr o5 o6 o7 o8 o9) w)
    (h6 : ∀ o5 o6 o7 o8 o9 w K, (∀ r s w', Below w.heap.size w w' → MapE w' r → w'.rowIs s 33 1 (fun _ => .int .u64 0) → w.heap.size ≤ r → w.heap.size ≤ s → K (Fr o5 (cpV r s) o7 o8 o9) w') → wpOp Ybad.prog ops Q 6 K (Fr o5 o6 o7 o8 o9) w)
    (h7 : ∀ o5 o6 o7 o8 o9 w K, K (Fr o5 o6 (.map (some w.heap.size)) o8 o9) (w.alloc (.map #[] 0)) → wpOp Ybad.prog ops Q 7 K (Fr o5 o6 o7 o8 o9) w)
    (h8 : ∀ o5 o6 o7 o8 o9 w K, K (Fr o5 o6 o7 (.map (some w.heap.size)) o9) (w.alloc (.map #[] 0)) → wpOp Ybad.prog ops Q 8 K (Fr o5 o6 o7 o8 o9) w)
    (h9 : ∀ o5 o6 o7 o8 o9 w K, K (Fr o5 o6 o7 o8 (.map (some w.heap.size))) (w.alloc (.map #[] 0)) → wpOp Ybad.prog ops Q 9 K (Fr o5 o6 o7 o8 o9) w)
    (f : Nat) (hend : ∀ i r s p a v w, MkI B w0 w ⟨some i, some (r, s), some p, some a, some v⟩ → wpAny Ybad.prog .any ops Q f (L true true true true true) (Fr (.map (some i)) (cpV r s) (.map (some p)) (.map (some a)) (.map (some v))) w) :
    ∀ (n : Nat) (m : Mk) (w : World), m.left = n → MkI B w0 w m → wpAny Ybad.prog .any ops Q (f + n) (L m.i.isSome m.c.isSome m.p.isSome m.a.isSome m.v.isSome) (Fr (mapV m.i) (copV m.c) (mapV m.p) (mapV m.a) (mapV m.v)) w := by
  intro n
  induction n with
  | zero =>
    intro m w hn hm
    obtain ⟨i, c, p, a, v⟩ := m
    cases i <;> cases c <;> cases p <;> cases a <;> cases v <;> simp [Mk.left] at hn
    rename_i i rs p a v
    obtain ⟨r, s⟩ := rs
    exact hend i r s p a v w hm
  | succ n ih =>
    intro m w hn hm
    have hne : rdy m.i.isSome m.c.isSome m.p.isSome m.a.isSome m.v.isSome ≠ [] := by
      obtain ⟨i, c, p, a, v⟩ := m
      cases i <;> cases c <;> cases p <;> cases a <;> cases v <;> simp [Mk.left, rdy] at hn ⊢
    refine wpAny_all (fuel := f + n) (hr _ _ _ _ _ hne) hne ?_
    intro j hj
    have hcase : (j = 5 ∧ m.i = none) ∨ (j = 6 ∧ m.c = none) ∨ (j = 7 ∧ m.p = none) ∨ (j = 8 ∧ m.a = none) ∨ (j = 9 ∧ m.v = none) := by
      obtain ⟨i, c, p, a, v⟩ := m
      cases i <;> cases c <;> cases p <;> cases a <;> cases v <;> simp [rdy] at hj ⊢ <;> omega
    rcases hcase with ⟨rfl, he⟩ | ⟨rfl, he⟩ | ⟨rfl, he⟩ | ⟨rfl, he⟩ | ⟨rfl, he⟩
    · refine h5 _ _ _ _ _ _ _ ?_
      rw [hL5]
      exact ih { m with i := some w.heap.size } _ (by simp [Mk.left, he] at hn ⊢; omega) hm.mapI
    · refine h6 _ _ _ _ _ _ _ (fun r s w' hb hr1 hs1 hr2 hs2 => ?_)
      rw [hL6]
      exact ih { m with c := some (r, s) } _ (by simp [Mk.left, he] at hn ⊢; omega) (hm.cop hb hr1 hs1 hr2 hs2)
    · refine h7 _ _ _ _ _ _ _ ?_
      rw [hL7]
      exact ih { m with p := some w.heap.size } _ (by simp [Mk.left, he] at hn ⊢; omega) hm.mapP
    · refine h8 _ _ _ _ _ _ _ ?_
      rw [hL8]
      exact ih { m with a := some w.heap.size } _ (by simp [Mk.left, he] at hn ⊢; omega) hm.mapA
    · refine h9 _ _ _ _ _ _ _ ?_
      rw [hL9]
      exact ih { m with v := some w.heap.size } _ (by simp [Mk.left, he] at hn ⊢; omega) (hm.mapV _)

/-- .. from the start -/
theorem makers5_start {ops : Array Oper} {Q : Exit → Act → World → Prop} {B : Nat} {w0 : World} (L : Bool → Bool → Bool → Bool → Bool → Array Bool) (Fr : Value → Value → Value → Value → Value → Act)
    (hr : ∀ b5 b6 b7 b8 b9, rdy b5 b6 b7 b8 b9 ≠ [] → Region.ready .any ops (L b5 b6 b7 b8 b9) = rdy b5 b6 b7 b8 b9)
    (hL5 : ∀ b5 b6 b7 b8 b9, (L b5 b6 b7 b8 b9).setIfInBounds 5 true = L true b6 b7 b8 b9) (hL6 : ∀ b5 b6 b7 b8 b9, (L b5 b6 b7 b8 b9).setIfInBounds 6 true = L b5 true b7 b8 b9)
    (hL7 : ∀ b5 b6 b7 b8 b9, (L b5 b6 b7 b8 b9).setIfInBounds 7 true = L b5 b6 true b8 b9) (hL8 : ∀ b5 b6 b7 b8 b9, (L b5 b6 b7 b8 b9).setIfInBounds 8 true = L b5 b6 b7 true b9)
    (hL9 : ∀ b5 b6 b7 b8 b9, (L b5 b6 b7 b8 b9).setIfInBounds 9 true = L b5 b6 b7 b8 true)
    (h5 : ∀ o5 o6 o7 o8 o9 w K, K (Fr (.map (some w.heap.size)) o6 o7 o8 o9) (w.alloc (.map #[] 0)) → wpOp Ybad.prog ops Q 5 K (Fr o5 o6 o7 o8 o9) w)
    (h6 : ∀ o5 o6 o7 o8 o9 w K, (∀ r s w', Below w.heap.size w w' → MapE w' r → w'.rowIs s 33 1 (fun _ => .int .u64 0) → w.heap.size ≤ r → w.heap.size ≤ s → K (Fr o5 (cpV r s) o7 o8 o9) w') → wpOp Ybad.prog ops Q 6 K (Fr o5 o6 o7 o8 o9) w)
    (h7 : ∀ o5 o6 o7 o8 o9 w K, K (Fr o5 o6 (.map (some w.heap.size)) o8 o9) (w.alloc (.map #[] 0)) → wpOp Ybad.prog ops Q 7 K (Fr o5 o6 o7 o8 o9) w)
    (h8 : ∀ o5 o6 o7 o8 o9 w K, K (Fr o5 o6 o7 (.map (some w.heap.size)) o9) (w.alloc (.map #[] 0)) → wpOp Ybad.prog ops Q 8 K (Fr o5 o6 o7 o8 o9) w)
    (h9 : ∀ o5 o6 o7 o8 o9 w K, K (Fr o5 o6 o7 o8 (.map (some w.heap.size))) (w.alloc (.map #[] 0)) → wpOp Ybad.prog ops Q 9 K (Fr o5 o6 o7 o8 o9) w)
    (f : Nat) (hend : ∀ i r s p a v w, MkI B w0 w ⟨some i, some (r, s), some p, some a, some v⟩ → wpAny Ybad.prog .any ops Q f (L true true true true true) (Fr (.map (some i)) (cpV r s) (.map (some p)) (.map (some a)) (.map (some v))) w) :
    ∀ (w : World), MkI B w0 w ⟨none, none, none, none, none⟩ → wpAny Ybad.prog .any ops Q (f + 5) (L false false false false false) (Fr undef undef undef undef undef) w :=
  fun w hm => makers5 L Fr hr hL5 hL6 hL7 hL8 hL9 h5 h6 h7 h8 h9 f hend 5 ⟨none, none, none, none, none⟩ w rfl hm
end Go.Proofs.YbulkgbaiDoor
