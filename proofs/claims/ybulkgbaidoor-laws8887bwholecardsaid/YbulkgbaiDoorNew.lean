import Derived.Test.YbulkgbaiDoorMakers
namespace Go.Proofs.YbulkgbaiDoor
open Go.RowKit Go.Zz Go.Maps

theorem make49_1 (w : World) : (Instr.makeSlice 49 (.int .i64 1) (.int .i64 1)).run Ybad.prog w = .ok (.slice (some ⟨w.heap.size, 0, none⟩) 1 1) (w.alloc (.cells (madeCells #[.int .u64 0] 1) 33)) := by
  have := run_make_any Ybad.prog 49 33 (.int .u64 0) #[.int .u64 0] 1 8 Ybad.underlying49 (by kernel_rfl) rfl 1 (by omega) (by omega) w
  simpa using this

theorem MapE.drew {w : World} {b : Nat} (h : MapE w b) : MapE w.drew b := h

set_option maxRecDepth 100000 in
theorem newCopies_any (w : World) : Calls Ybad.prog 9 #[] w fun x w' => x = .returned (.agg #[.map (some (w.heap.size + 1)), .slice none 0 0, .slice none 0 0, .int .i64 1, .slice (some ⟨w.heap.size + 2, 0, none⟩) 1 1]) ∧
    w' = ((w.alloc (.cells #[.map (some (w.heap.size + 1)), .slice none 0 0, .slice none 0 0, .int .i64 1, .slice (some ⟨w.heap.size + 1 + 1, 0, none⟩) 1 1] 52)).alloc (.map #[] 0)).alloc (.cells (madeCells #[.int .u64 0] 1) 33) := by
  have hmk := make49_1
  have hmm := @run_makeMap Ybad.prog
  go_enter Ybad.func9, Ybad.ntmps9
  go_wp2
  refine bodyPost_ret (v := .agg #[.map (some (w.heap.size + 1)), .slice none 0 0, .slice none 0 0, .int .i64 1, .slice (some ⟨w.heap.size + 2, 0, none⟩) 1 1]) (by simp [results, Ybad.results9, go_sem]) rfl ⟨rfl, rfl⟩

theorem makeMap_hint (n : Nat) (w : World) : (Instr.makeMap 47 (some (.int .i64 (n : Int)))).run Ybad.prog w = .ok (.map (some w.heap.size)) (w.alloc (.map #[] 0)) := by
  simp [Instr.makeMap, asInt, asIntOf, newObj, run_underlying Ybad.underlying47]
  rfl

theorem cell_of_kept {w w1 wr : World} {S : List Nat} {a : Addr} {v : Value} (hk : Kept S w1 wr) (hb : Below w.heap.size w w1) (hc : w.cell? a = some v) (hS : ∀ b ∈ S, w.heap.size ≤ b) : wr.cell? a = some v := by
  have hlt := World.block_lt_of_cell? w a hc
  rw [hk.cell (Nat.lt_of_lt_of_le hlt hb.size) (fun hm => by have := hS _ hm; omega), hb.cell hlt]
  exact hc

/-- the engine as New's first statement makes it -/
structure NE (w wx : World) (eb : Nat) (e : EV) : Prop where
  hE : E wx eb e
  bel : Below w.heap.size w wx
  heb : w.heap.size ≤ eb
  inc : MapE wx e.inc
  rm : MapE wx e.rm
  op : MapE wx e.op
  ac : MapE wx e.ac
  binc : w.heap.size ≤ e.inc
  brm : w.heap.size ≤ e.rm
  bop : w.heap.size ≤ e.op
  bac : w.heap.size ≤ e.ac
  n1 : e.inc ≠ e.rm
  n2 : e.inc ≠ e.op
  n3 : e.inc ≠ e.ac
  n4 : e.op ≠ e.rm
  n5 : e.ac ≠ e.rm
  slots : ∃ sb, e.slots = .slice (some ⟨sb, 0, none⟩) 1 1 ∧ wx.rowIs sb 33 1 (fun _ => .int .u64 0) ∧ w.heap.size ≤ sb
  vals : e.outg = .slice none 0 0 ∧ e.bits = .slice none 0 0 ∧ e.free = .slice none 0 0 ∧ e.words = 1 ∧ e.dl = false ∧ e.seq = 0 ∧ e.ent = 0

theorem row33_new {w : World} {b : Nat} (h : b = w.heap.size) : (w.alloc (.cells (madeCells #[.int .u64 0] 1) 33)).rowIs b 33 1 (fun _ => .int .u64 0) := by
  rw [h]
  exact ⟨_, Deep.blk_alloc_new _ _, by simp [madeCells], fun i hi => by (obtain rfl : i = 0 := by omega); simp [madeCells]⟩

/-- one order's end -/
theorem ne_leaf {w W : World} {self life : Int} {out : Value} {i r p a v s eb : Nat} {wl : Bool} (heb : eb = W.heap.size) (hb : Below w.heap.size w W) (hi : MapE W i) (hr : MapE W r) (hp : MapE W p) (ha : MapE W a) (hs : W.rowIs s 33 1 (fun _ => .int .u64 0))
    (b1 : w.heap.size ≤ i) (b2 : w.heap.size ≤ r) (b3 : w.heap.size ≤ p) (b4 : w.heap.size ≤ a) (b5 : w.heap.size ≤ s) (n1 : i ≠ r) (n2 : i ≠ p) (n3 : i ≠ a) (n4 : p ≠ r) (n5 : a ≠ r) :
    NE w (W.alloc (.cells #[.int .u32 self, .int .u32 life, out, .slice none 0 0, .map (some i), .map (some r), .slice none 0 0, .slice none 0 0, .int .i64 1, .slice (some ⟨s, 0, none⟩) 1 1, .map (some p), .map (some a), .map (some v), .bool wl, .bool false, .int .u64 0, .int .u64 0, .int .i64 0] 59)) eb
      ⟨self, life, out, .slice none 0 0, i, r, .slice none 0 0, .slice none 0 0, 1, .slice (some ⟨s, 0, none⟩) 1 1, p, a, v, wl, false, 0, 0, 0⟩ := by
  subst heb
  refine ⟨⟨_, Deep.blk_alloc_new _ _, rfl, fun i hi => ?_⟩, hb.alloc hb.size _, hb.size, hi.alloc _, hr.alloc _, hp.alloc _, ha.alloc _, b1, b2, b3, b4, n1, n2, n3, n4, n5, ⟨s, rfl, hs.alloc _, b5⟩, rfl, rfl, rfl, rfl, rfl, rfl, rfl⟩
  rcases i with _ | _ | _ | _ | _ | _ | _ | _ | _ | _ | _ | _ | _ | _ | _ | _ | _ | _ | i <;> first | rfl | omega

theorem NE.drew {w wx : World} {eb : Nat} {e : EV} (h : NE w wx eb e) : NE w wx.drew eb e :=
  ⟨h.hE, h.bel.drew, h.heb, h.inc, h.rm, h.op, h.ac, h.binc, h.brm, h.bop, h.bac, h.n1, h.n2, h.n3, h.n4, h.n5, h.slots, h.vals⟩

theorem RM.ofE {w : World} {b : Nat} (h : MapE w b) (o : Nat) : RM w b o 0 := by
  obtain ⟨n, D, ⟨es, clock, hb, h1⟩, h2⟩ := RM.made w o
  rw [Deep.blk_alloc_new] at hb
  simp only [Option.some.injEq, Obj.map.injEq] at hb
  obtain ⟨rfl, rfl⟩ := hb
  exact ⟨n, D, ⟨_, _, h, h1⟩, h2⟩

theorem IM.ofE {w : World} {b : Nat} (h : MapE w b) : IM w b 0 := by
  obtain ⟨n, D, ⟨es, clock, hb, h1⟩, h2⟩ := IM.made w
  rw [Deep.blk_alloc_new] at hb
  simp only [Option.some.injEq, Obj.map.injEq] at hb
  obtain ⟨rfl, rfl⟩ := hb
  exact ⟨n, D, ⟨_, _, h, h1⟩, h2⟩

theorem im_ne {w : World} {b im j m : Nat} {t : TypeId} {f : Nat → Value} (hM : IM w im j) (hr : w.rowIs b t m f) : im ≠ b := by
  intro h
  obtain ⟨n, D, ⟨es, clock, hb, _⟩, _⟩ := hM
  obtain ⟨c, hc, _⟩ := hr
  rw [h, hc] at hb
  cases hb

theorem mapE_ne {w : World} {b mb m : Nat} {t : TypeId} {f : Nat → Value} (hM : MapE w mb) (hr : w.rowIs b t m f) : mb ≠ b := by
  intro h
  obtain ⟨c, hc, _⟩ := hr
  unfold MapE at hM
  rw [h, hc] at hM
  cases hM

theorem im_vec {w : World} {B im j n size : Nat} {t : TypeId} {v : Value} {f : Nat → Value} (hM : IM w im j) (hv : Vec w B t size v n f) : v.ownBlock ≠ some im := by
  rcases hv.2 with ⟨h1, _⟩ | ⟨c, cap, cur, h1, h2, h3, _⟩
  · rw [h1]; simp [Value.ownBlock]
  · intro hb
    rw [h1] at hb
    simp only [Value.ownBlock, Option.some.injEq] at hb
    subst hb
    obtain ⟨n, D, ⟨es, clock, hb, _⟩, _⟩ := hM
    rw [h3] at hb
    cases hb

theorem mapE_vec {w : World} {B mb n size : Nat} {t : TypeId} {v : Value} {f : Nat → Value} (hM : MapE w mb) (hv : Vec w B t size v n f) : v.ownBlock ≠ some mb := by
  rcases hv.2 with ⟨h1, _⟩ | ⟨c, cap, cur, h1, h2, h3, _⟩
  · rw [h1]; simp [Value.ownBlock]
  · intro hb
    rw [h1] at hb
    simp only [Value.ownBlock, Option.some.injEq] at hb
    subst hb
    unfold MapE at hM
    rw [h3] at hM
    cases hM

theorem vec_base {w : World} {B B' : Nat} {e : TypeId} {size : Nat} {v : Value} {n : Nat} {f : Nat → Value} (h : Vec w B e size v n f) (hB : B' ≤ B) : Vec w B' e size v n f := by
  refine ⟨h.1, h.2.imp id ?_⟩
  rintro ⟨b, cap, cur, h1, h2, h3⟩
  exact ⟨b, cap, cur, h1, by omega, h3⟩

/-- New's frame in the midst of its first statement -/
def frN (self life ni ic no oc ob : Nat) (ia oa : Option Addr) (o5 o6 o7 o8 o9 : Value) : Act := { tmps := #[.int .u32 (self : Int), .int .u32 (life : Int), .slice ia ni ic, .slice oa no oc, .iface 27 (.pointer (some ⟨ob, 0, none⟩)), undef, undef, undef, undef, undef, .pointer none, undef, undef, undef, undef, undef, .int .u32 (self : Int), .int .u32 (life : Int), .iface 27 (.pointer (some ⟨ob, 0, none⟩)), .slice ia ni ic, .int .i64 (ni : Int), o5, o6, o7, o8, o9, .slice ia ni ic, .int .i64 (ni : Int), .slice oa no oc, .int .i64 (no : Int), .int .i64 (IntKind.i64.wrap ((ni : Int) + (no : Int))), .bool (decide (0 < IntKind.i64.wrap ((ni : Int) + (no : Int)))), undef, undef, undef, undef, undef, undef, undef, undef, undef, undef, undef, undef, undef, undef, undef, undef, undef, undef, undef, undef, undef, undef, undef, undef, undef, undef, undef, undef, undef, undef, undef, undef, undef, undef, undef, undef, undef], defers := [] }

/-- .. what has come up -/
def lsN (b5 b6 b7 b8 b9 : Bool) : Array Bool := #[true, true, true, true, true, b5, b6, b7, b8, b9, true, true, true, true, true, true, false, false, false]

theorem wpAny_cast {P : Program} {md : Region.Mode} {ops : Array Oper} {Q : Exit → Act → World → Prop} {f : Nat} {l l' : Array Bool} {a a' : Act} {w : World} (hl : l = l') (ha : a = a') (h : wpAny P md ops Q f l' a' w) : wpAny P md ops Q f l a w := by
  subst hl; subst ha; exact h

theorem info61 : (Ybad.prog.info? 61).map (fun i => (i.zero, i.size, i.bytes)) = some (some (.agg #[.int .u32 0, .int .u64 0]), 2, 16) := by kernel_rfl

attribute [-go_sem] Builtin.append_

set_option maxRecDepth 100000 in
set_option maxHeartbeats 40000000 in
theorem new_any (self life ni ic no oc ob o ib io gb go : Nat) (ia oa : Option Addr) (I D : Nat → Nat) (w : World) (hni : ni ≤ 300) (hno : no ≤ 300) (ht : Tab w) (hw0 : 0 < w.heap.size)
    (hia : 0 < ni → ia = some ⟨ib, io, none⟩) (hI : ∀ i, i < ni → w.cell? ⟨ib, io + i, none⟩ = some (.int .u32 (I i : Int))) (hIr : ∀ i, i < ni → I i < 4294967296)
    (hoa : 0 < no → oa = some ⟨gb, go, none⟩) (hD : ∀ i, i < no → w.cell? ⟨gb, go + i, none⟩ = some (.int .u32 (D i : Int))) :
    Calls Ybad.prog 4 #[.int .u32 (self : Int), .int .u32 (life : Int), .slice ia ni ic, .slice oa no oc, .iface 27 (.pointer (some ⟨ob, 0, none⟩))] w fun x w' =>
      ∃ eb e, x = .returned (.pointer (some ⟨eb, 0, none⟩)) ∧ Below w.heap.size w w' ∧ Cs w' w.heap.size eb e o ni 0 ∧ (e.self = self ∧ e.life = life ∧ e.outv = .iface 27 (.pointer (some ⟨ob, 0, none⟩))) ∧
        Vec w' w.heap.size 61 2 e.outg no (olF D) ∧ MapE w' e.op ∧ MapE w' e.ac ∧ e.op ≠ e.rm ∧ e.ac ≠ e.rm ∧ e.dl = false ∧ e.seq = 0 ∧ e.ent = 0 := by
  have hmm := @run_makeMap Ybad.prog
  have hmh := fun w => makeMap_hint ni w
  have HT := hid ht
  have HIA := hid hia
  have HI := hid hI
  have HIR := hid hIr
  have HOA := hid hoa
  have HD := hid hD
  clear ht hia hI hIr hoa hD
  go_enter Ybad.func4, Ybad.ntmps4
  go_upto_region 1 with fail
  go_cut [11] from 16 to 33 (fun v wx => ∃ eb e, v = .pointer (some ⟨eb, 0, none⟩) ∧ NE w wx eb e ∧ e.self = self ∧ e.life = life ∧ e.outv = .iface 27 (.pointer (some ⟨ob, 0, none⟩)))
  case first =>
    go_wp2
    refine wp_region_any (by kernel_rfl) ?_
    change wpAny _ _ _ _ _ _ _ (World.drew _)
    refine wpAny_take (i := 0) (v := .int .u32 (self : Int)) rfl (by kernel_rfl) (by kernel_rfl) (by kernel_rfl) (fun _ _ _ h => h) (Or.inl ⟨by rfl, by intro w; go_simp⟩) ?_
    refine wpAny_take (i := 1) (v := .int .u32 (life : Int)) rfl (by kernel_rfl) (by kernel_rfl) (by kernel_rfl) (fun _ _ _ h => h) (Or.inl ⟨by rfl, by intro w; go_simp⟩) ?_
    refine wpAny_take (i := 2) (v := .iface 27 (.pointer (some ⟨ob, 0, none⟩))) rfl (by kernel_rfl) (by kernel_rfl) (by kernel_rfl) (fun _ _ _ h => h) (Or.inl ⟨by rfl, by intro w; go_simp⟩) ?_
    refine wpAny_take (i := 3) (v := .slice ia ni ic) rfl (by kernel_rfl) (by kernel_rfl) (by kernel_rfl) (fun _ _ _ h => h) (Or.inl ⟨by rfl, by intro w; go_simp⟩) ?_
    refine wpAny_take (i := 4) (v := .int .i64 (ni : Int)) rfl (by kernel_rfl) (by kernel_rfl) (by kernel_rfl) (fun _ _ _ h => h) (Or.inl ⟨by rfl, by intro w; go_simp⟩) ?_
    refine wpAny_take (i := 10) (v := .slice ia ni ic) rfl (by kernel_rfl) (by kernel_rfl) (by kernel_rfl) (fun _ _ _ h => h) (Or.inl ⟨by rfl, by intro w; go_simp⟩) ?_
    refine wpAny_take (i := 11) (v := .int .i64 (ni : Int)) rfl (by kernel_rfl) (by kernel_rfl) (by kernel_rfl) (fun _ _ _ h => h) (Or.inl ⟨by rfl, by intro w; go_simp⟩) ?_
    refine wpAny_take (i := 12) (v := .slice oa no oc) rfl (by kernel_rfl) (by kernel_rfl) (by kernel_rfl) (fun _ _ _ h => h) (Or.inl ⟨by rfl, by intro w; go_simp⟩) ?_
    refine wpAny_take (i := 13) (v := .int .i64 (no : Int)) rfl (by kernel_rfl) (by kernel_rfl) (by kernel_rfl) (fun _ _ _ h => h) (Or.inl ⟨by rfl, by intro w; go_simp⟩) ?_
    refine wpAny_take (i := 14) (v := .int .i64 (IntKind.i64.wrap ((ni : Int) + (no : Int)))) rfl (by kernel_rfl) (by kernel_rfl) (by kernel_rfl) (fun _ _ _ h => h) (Or.inl ⟨by rfl, by intro w; go_simp⟩) ?_
    refine wpAny_take (i := 15) (v := .bool (decide (0 < IntKind.i64.wrap ((ni : Int) + (no : Int))))) rfl (by kernel_rfl) (by kernel_rfl) (by kernel_rfl) (fun _ _ _ h => h) (Or.inl ⟨by rfl, by intro w; go_simp⟩) ?_
    refine wpAny_cast (l' := lsN false false false false false) (a' := frN self life ni ic no oc ob ia oa undef undef undef undef undef) (by kernel_rfl) (by kernel_rfl) ?_
    refine makers5_start (B := w.heap.size) (w0 := w) lsN (frN self life ni ic no oc ob ia oa) ?_ (fun _ _ _ _ _ => rfl) (fun _ _ _ _ _ => rfl) (fun _ _ _ _ _ => rfl) (fun _ _ _ _ _ => rfl) (fun _ _ _ _ _ => rfl) ?_ ?_ ?_ ?_ ?_ 3 ?_ w.drew (MkI.start w)
    · intro b5 b6 b7 b8 b9 h
      cases b5 <;> cases b6 <;> cases b7 <;> cases b8 <;> cases b9 <;> first | exact absurd rfl h | kernel_rfl
    · intro o5 o6 o7 o8 o9 wz K h
      refine wpOp_step rfl (fun K' hK' => ?_)
      unfold frN at h ⊢
      go_simp
      exact hK' _ _ h
    · intro o5 o6 o7 o8 o9 wz K h
      refine wpOp_step rfl (fun K' hK' => ?_)
      unfold frN cpV at h
      unfold frN
      go_simp
      refine (newCopies_any wz).mono ?_
      rintro x w1 ⟨rfl, rfl⟩
      refine hK' _ _ (h (wz.heap.size + 1) (wz.heap.size + 2) _ (((below_new _ _).alloc (by simp only [Deep.nblk_alloc]; omega) _).alloc (by simp only [Deep.nblk_alloc]; omega) _) ?_ ?_ (by omega) (by omega))
      · exact (MapE.new (by simp)).alloc _
      · exact row33_new (by simp)
    · intro o5 o6 o7 o8 o9 wz K h
      refine wpOp_step rfl (fun K' hK' => ?_)
      unfold frN at h ⊢
      go_simp
      exact hK' _ _ h
    · intro o5 o6 o7 o8 o9 wz K h
      refine wpOp_step rfl (fun K' hK' => ?_)
      unfold frN at h ⊢
      go_simp
      exact hK' _ _ h
    · intro o5 o6 o7 o8 o9 wz K h
      refine wpOp_step rfl (fun K' hK' => ?_)
      unfold frN at h ⊢
      go_simp
      exact hK' _ _ h
    · intro i r s p a v wz hm
      refine wpAny_take (i := 16) (v := .agg #[.int .u32 (self : Int), .int .u32 (life : Int), .iface 27 (.pointer (some ⟨ob, 0, none⟩)), .slice none 0 0, .map (some i), .map (some r), .slice none 0 0, .slice none 0 0, .int .i64 1, .slice (some ⟨s, 0, none⟩) 1 1, .map (some p), .map (some a), .map (some v), .bool (decide (0 < IntKind.i64.wrap ((ni : Int) + (no : Int)))), .bool false, .int .u64 0, .int .u64 0, .int .i64 0]) rfl (by kernel_rfl) (by kernel_rfl) (by kernel_rfl) (fun _ _ _ h => h) (Or.inl ⟨by rfl, by intro w; unfold frN cpV; go_simp⟩) ?_
      refine wpAny_ready (rs := [17]) (by kernel_rfl) (by simp) ?_
      refine AllReady.cons rfl (fun K hK => ?_) AllReady.nil
      unfold frN cpV
      go_simp
      refine hK _ _ ?_
      clear hK K
      refine wpAny_take (i := 18) (v := .pointer (some ⟨wz.heap.size, 0, none⟩)) rfl (by kernel_rfl) (by kernel_rfl) (by kernel_rfl) (fun _ _ _ h => h) (Or.inl ⟨by rfl, by intro w; go_simp⟩) ?_
      refine wpAny_done (by kernel_rfl) ?_ _
      have h1 := hm.hi i rfl
      have h2 := hm.hc r s rfl
      have h3 := hm.hp p rfl
      have h4 := hm.ha a rfl
      have hleaf := ne_leaf (w := w) (self := (self : Int)) (life := (life : Int)) (out := .iface 27 (.pointer (some ⟨ob, 0, none⟩))) (v := v) (wl := decide (0 < IntKind.i64.wrap ((ni : Int) + (no : Int)))) (eb := wz.heap.size) rfl hm.bel h1.1 h2.1 h3.1 h4.1 h2.2.2.1 h1.2 h2.2.1 h3.2 h4.2 h2.2.2.2 (hm.n1 i r s rfl rfl) (hm.n2 i p rfl rfl) (hm.n3 i a rfl rfl) (hm.n4 p r s rfl rfl) (hm.n5 a r s rfl rfl)
      have HLEAF := hid hleaf
      clear hleaf h1 h2 h3 h4 hm hmm hmh
      go_wp2
      go_meet
      exact ⟨_, _, rfl, HLEAF.out, rfl, rfl, rfl⟩
  case rest =>
    clear hmm hmh
    obtain ⟨w1, hw1⟩ : ∃ w1, w1 = wc := ⟨_, rfl⟩
    subst hw1
    obtain ⟨eb, e, rfl, hne, hself, hlife, hout⟩ := hcut
    obtain ⟨hog, hbt, hfr, hwd, hdl, hsq, hen⟩ := hne.vals
    have hlt1 : eb < w1.heap.size := World.rowIs.lt hne.hE
    have HN := hid hne
    have HOG := hid hog
    have HV := hid (show e.self = self ∧ e.life = life ∧ e.outv = .iface 27 (.pointer (some ⟨ob, 0, none⟩)) from ⟨hself, hlife, hout⟩)
    have HVB := hid hbt
    have HVF := hid hfr
    have HVW := hid hwd
    have HVD := hid (show e.dl = false ∧ e.seq = 0 ∧ e.ent = 0 from ⟨hdl, hsq, hen⟩)
    clear hne hself hlife hout hog hbt hfr hwd hdl hsq hen
    go_upto_block 0 with fail
    go_cut [13, 36] from 36 to 51 (fun _ _ wx => Kept [eb] w1 wx ∧ ∃ v, E wx eb { e with outg := v } ∧ Vec wx w1.heap.size 61 2 v no (olF D))
    case first =>
      go_wp2_with fail
      go_loopw [36, 13] (fun i _ wr => ∃ t : Nat, t ≤ no ∧ i = .int .i64 t ∧ Kept [eb] w1 wr ∧ ∃ v, E wr eb { e with outg := v } ∧ Vec wr w1.heap.size 61 2 v t (olF D)) (fun i _ _ => no - (intOf i).toNat)
      case atStart =>
        refine ⟨0, Nat.zero_le _, rfl, Kept.refl _ _, .slice none 0 0, ?_, Vec.nil _ _ _ _ _⟩
        have he : ({ e with outg := .slice none 0 0 } : EV) = e := by rw [← HOG.out]
        rw [he]
        exact HN.out.hE
      case round =>
        obtain ⟨t, htn, rfl, hk, v, hE, hvec⟩ := hrel
        by_cases htn2 : t < no
        · obtain rfl := HOA.out (by omega)
          have g0 := cell_of_kept hk HN.out.bel (HD.out t htn2) (fun b hb => by simp at hb; have := HN.out.heb; omega)
          have hlt : eb < wr.heap.size := World.rowIs.lt hE
          have hva : ∃ va vc, v = .slice va t vc := by
            rcases hvec.shape with ⟨h, h0⟩ | ⟨b, c, h, _⟩
            · exact ⟨_, _, by rw [h, h0]⟩
            · exact ⟨_, _, h⟩
          obtain ⟨va, vc, rfl⟩ := hva
          have hnev : (Value.slice va t vc).ownBlock ≠ some eb := vec_ne hvec hE (by decide)
          have c3 := E.c3 hE
          obtain ⟨b3, cap3, w3, hap, hV3, hgr3, hat3, hB3⟩ := run_append_vec Ybad.prog (wr.alloc (.cells #[.int .u32 (D t : Int), .int .u64 0] 61)) w1.heap.size 57 57 61 _ 2 16 Ybad.underlying57 info61 rfl (by decide) _ t (olF D) (hvec.alloc _) ⟨wr.heap.size, 0, none⟩ 1 1 (by decide) (fun j => if j = 0 then .int .u32 (D t : Int) else .int .u64 0) (olF D)
            (fun j hj => by rw [add_zero_plain]; rcases j with _ | _ | j <;> first | (simp; done) | omega) (fun j hj => by rcases j with _ | _ | j <;> first | rfl | omega) (fun _ _ => rfl)
            (fun j hj => by
              unfold olF
              rcases j with _ | _ | j
              · rw [if_pos (by omega), if_pos rfl, show (t * 2 + 0) / 2 = t by omega]
              · rw [if_neg (by omega), if_neg (by omega)]
              · omega) (by unfold maxLen; omega) (by omega) (by rw [Deep.nblk_alloc]; have := hk.size; omega)
          have hE3 : E w3 eb { e with outg := .slice va t vc } := rowIs_grown (World.rowIs.alloc hE _) hgr3 (fun h => hnev h.symm)
          have hk3 : Kept [eb] w1 w3 := (hk.alloc _).grown hgr3 (fun q hq => .inr (World.ownsRow.lt hvec q hq).1)
          have f3 := E.fz hE3 3
          have e3 := E.c3 hE3
          have hb3 : b3 ≠ eb := by omega
          have HAP := hid hap
          have HE3 := hid hE3
          have HV3 := hid hV3
          have HK3 := hid hk3
          clear hap hE3 hV3 hk3 hk hE hvec hgr3 hat3
          go_wp2_with (at_builtin; refine wpList_append_run rfl (.tmp 44) (.tmp 47) 57 57 rfl rfl rfl rfl HAP.out ?_)
          go_roundw
          case rel => exact ⟨t + 1, by omega, by go_num, HK3.out.setCell (.inl (by simp)) _, _, E.outg HE3.out _, vec_set HV3.out (fun h => hb3 (by simpa [Value.ownBlock] using h)) _⟩
          case measure => simp [intOf]; omega
        · obtain rfl : t = no := by omega
          go_wp2
          go_meet
          exact ⟨hk, v, hE, hvec⟩
    case rest =>
      obtain ⟨w2, hw2⟩ : ∃ w2, w2 = wc := ⟨_, rfl⟩
      subst hw2
      obtain ⟨hk2, v, hE2, hvec2⟩ := hcut
      obtain ⟨sb, hsv, hsr, hsb⟩ := HN.out.slots
      have hne1 : sb ≠ eb := by
        intro h
        obtain ⟨c1, hc1, _⟩ := hsr
        obtain ⟨c2, hc2, _⟩ := HN.out.hE
        rw [h, hc2] at hc1
        simp at hc1
      have hsr2 : w2.rowIs sb 33 1 (fun _ => .int .u64 0) := hk2.row hsr (by simpa using hne1)
      have hS2 : Vec w2 w.heap.size 33 1 e.slots (wordsOf 0) (fun i => .int .u64 (slotW 0 i : Int)) := by
        rw [hsv]
        exact (Vec.of_row (n := 1) (size := 1) hsr2 hsb (by unfold maxLen; omega)).congr (fun j hj => by rw [slotW0]; rfl)
      have hmk : ∀ b, MapE w1 b → MapE w2 b := fun b hb => (hk2.block _ hb.lt (by simpa using mapE_ne hb HN.out.hE)).trans hb
      have him2 : IM w2 e.inc 0 := IM.ofE (hmk _ HN.out.inc)
      have hbel2 : Below w.heap.size w w2 := kept_below HN.out.bel hk2 HN.out.bel.size (fun b hb => by simp at hb; have := HN.out.heb; omega)
      have hsl : e.slots.ownBlock = some sb := by rw [hsv]; rfl
      have HE2 := hid hE2
      have HVEC2 := hid hvec2
      have HS2 := hid hS2
      have HIM2 := hid him2
      have HMK := hid hmk
      have HBEL2 := hid hbel2
      have HSL := hid hsl
      have hlt2 : eb < w2.heap.size := World.rowIs.lt hE2
      have HK2 := hid hk2
      clear hk2 hE2 hvec2 hsv hsr hsr2 hS2 hmk him2 hbel2 hsl
      go_upto_block 2 with fail
      go_cut [15, 54] from 54 to 67 (fun _ _ wx => ∃ bits' slots', E wx eb { e with outg := v, bits := bits', words := wordsOf ni, slots := slots' } ∧ Vec wx w.heap.size 33 1 bits' 0 (fun _ => .int .u64 0) ∧ Vec wx w.heap.size 33 1 slots' (wordsOf ni) (fun i => .int .u64 (slotW ni i : Int)) ∧ (∀ b, slots'.ownBlock = some b → bits'.ownBlock ≠ some b) ∧ (∀ b, slots'.ownBlock = some b → b = sb ∨ w2.heap.size ≤ b) ∧ Kept [eb, e.inc, sb] w2 wx)
      case first =>
        go_wp2_with fail
        go_loopw [54, 15] (fun i _ wr => ∃ t : Nat, t ≤ ni ∧ i = .int .i64 t ∧ IM wr e.inc t ∧ ∃ bits' slots', E wr eb { e with outg := v, bits := bits', words := wordsOf t, slots := slots' } ∧ Vec wr w.heap.size 33 1 bits' 0 (fun _ => .int .u64 0) ∧ Vec wr w.heap.size 33 1 slots' (wordsOf t) (fun i => .int .u64 (slotW t i : Int)) ∧ (∀ b, slots'.ownBlock = some b → bits'.ownBlock ≠ some b) ∧ (∀ b, slots'.ownBlock = some b → b = sb ∨ w2.heap.size ≤ b) ∧ Kept [eb, e.inc, sb] w2 wr) (fun i _ _ => ni - (intOf i).toNat)
        case atStart =>
          refine ⟨0, Nat.zero_le _, rfl, HIM2.out, .slice none 0 0, e.slots, ?_, Vec.nil _ _ _ _ _, HS2.out, fun b _ => by simp [Value.ownBlock], fun b hb => .inl (by rw [HSL.out] at hb; simpa using hb.symm), Kept.refl _ _⟩
          have he : ({ e with outg := v, bits := .slice none 0 0, words := wordsOf 0, slots := e.slots } : EV) = { e with outg := v } := by
            rw [words0, ← HVB.out, ← HVW.out]
          rw [he]
          exact HE2.out
        case round =>
          obtain ⟨t, htn, rfl, him, bits', slots', hE, hV, hS, hdis, hat, hk⟩ := hrel
          by_cases htn2 : t < ni
          · obtain rfl := HIA.out (by omega)
            have g0 := cell_of_kept hk HBEL2.out (HI.out t htn2) (fun b hb => by simp only [List.mem_cons, List.not_mem_nil, or_false] at hb; have := HN.out.heb; have := HN.out.binc; omega)
            have hir := HIR.out t htn2
            have hlt : eb < wr.heap.size := World.rowIs.lt hE
            have c4 : wr.cell? ⟨eb, 4, none⟩ = some (.map (some e.inc)) := by have h := E.c4 hE; exact h
            have hbr : Below w.heap.size w wr := kept_below HBEL2.out hk HBEL2.out.size (fun b hb => by simp only [List.mem_cons, List.not_mem_nil, or_false] at hb; have := HN.out.heb; have := HN.out.binc; omega)
            have htb : Tab wr := HT.out.kept (Kept.of_below (S := []) hbr) (by simp) hw0
            have hadd := addLink_any eb w.heap.size t { e with outg := v, bits := bits', words := wordsOf t, slots := slots' } wr.drew (fun _ => .int .u64 0) hE HN.out.heb (by omega) rfl hV hS hdis htb hw0
            have him1 : e.inc ≠ eb := im_ne him hE
            have him3 : slots'.ownBlock ≠ some e.inc := im_vec him hS
            have HADD := hid hadd
            have HIM := hid him
            have HAT := hid hat
            have HK := hid hk
            clear hadd him hE hV hS hdis hat hk hbr htb
            go_wp2
            go_region_with (go_at_call 10; refine HADD.out.mono ?_; rintro x w3 ⟨rfl, bits3, slots3, g1, g2, g3, g4, g5, g6⟩; have d4 : w3.cell? ⟨eb, 4, none⟩ = some (.map (some e.inc)) := (by have h := E.c4 g1; exact h); have hm3 : IM w3 e.inc t := IM.of_block (w := wr.drew) HIM.out (g6.block _ HIM.out.lt (fun hm => by rcases List.mem_cons.1 hm with h | h; (exact him1 h); (exact him3 (by simpa using h)))); have hx1 := im_vec hm3 g3; have hx2 := im_vec hm3 g2; obtain ⟨w4, hst, hm4, hgr4⟩ := hm3.store (I t) t hir (by omega) (by omega); have G1 := hid g1; have G2 := hid g2; have G3 := hid g3; have G4 := hid g4; have G5 := hid g5; have G6 := hid g6; have HM4 := hid hm4; have HG4 := hid hgr4; clear g1 g2 g3 g4 g5 g6 hm3 hm4 hgr4)
            all_goals
              go_wp2
              go_roundw
              case rel =>
                refine ⟨t + 1, by omega, by go_num, HM4.out, bits3, slots3, rowIs_grown G1.out HG4.out (fun h => him1 (by simpa using h.symm)), G2.out.kept HG4.out (.inr hx2), G3.out.kept HG4.out (.inr hx1), G4.out, fun b hb => ?_, ?_⟩
                · rcases G5.out b hb with h | h
                  · exact HAT.out b h
                  · exact .inr (Nat.le_trans HK.out.size h)
                · refine ((HK.out.drew).step G6.out (fun b hb => ?_)).grown HG4.out (fun q hq => .inl (by simp at hq; simp [hq]))
                  rcases List.mem_cons.1 hb with h | h
                  · exact .inl (by simp [h])
                  · exact (HAT.out b (by simpa using h)).imp (fun h => by simp [h]) id
              case measure => simp [intOf]; omega
          · obtain rfl : t = ni := by omega
            go_wp2
            go_meet
            exact ⟨bits', slots', hE, hV, hS, hdis, hat, hk⟩
      case rest =>
        obtain ⟨w3, hw3⟩ : ∃ w3, w3 = wc := ⟨_, rfl⟩
        subst hw3
        obtain ⟨bits', slots', hE, hV, hS, hdis, hat, hk⟩ := hcut
        go_wp2
        go_ret
        have hnS : ∀ b, MapE w1 b → b ≠ e.inc → b ∉ [eb, e.inc, sb] := fun b hb hne hm => by
          simp only [List.mem_cons, List.not_mem_nil, or_false] at hm
          rcases hm with h | h | h
          · exact mapE_ne hb HN.out.hE h
          · exact hne h
          · exact mapE_vec (HMK.out b hb) HS2.out (by rw [HSL.out, h])
        have hmk3 : ∀ b, MapE w1 b → b ≠ e.inc → MapE w3 b := fun b hb hne => (hk.block _ (HMK.out b hb).lt (hnS b hb hne)).trans (HMK.out b hb)
        have hvv : Vec w3 w1.heap.size 61 2 v no (olF D) := hk.vec HVEC2.out (fun b hb hm => by
          simp only [List.mem_cons, List.not_mem_nil, or_false] at hm
          have h1 := (World.ownsRow.lt HVEC2.out b hb).1
          rcases hm with h | h | h
          · omega
          · have := HN.out.inc.lt; omega
          · exact vec_vec_ne HVEC2.out HS2.out (by decide) b hb (by rw [HSL.out, h]))
        refine ⟨eb, _, rfl, kept_below HBEL2.out hk HBEL2.out.size (fun b hb => by simp only [List.mem_cons, List.not_mem_nil, or_false] at hb; have := HN.out.heb; have := HN.out.binc; omega), ⟨hE, HN.out.heb, rfl, hS, hdis, RM.ofE (hmk3 _ HN.out.rm (fun h => HN.out.n1 h.symm)) o, HN.out.brm, .inl ⟨.inr rfl, ⟨fun _ => .int .u64 0, ?_⟩, HVF.out⟩⟩, HV.out, vec_base hvv HN.out.bel.size, hmk3 _ HN.out.op (fun h => HN.out.n2 h.symm), hmk3 _ HN.out.ac (fun h => HN.out.n3 h.symm), HN.out.n4, HN.out.n5, HVD.out.1, HVD.out.2.1, HVD.out.2.2⟩
        rw [Nat.zero_mul]
        exact hV
end Go.Proofs.YbulkgbaiDoor
