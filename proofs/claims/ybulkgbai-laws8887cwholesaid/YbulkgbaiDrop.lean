import Derived.Test.YbulkgbaiRel
import Derived.Laws.BitsAllLaws
namespace Go.Proofs.Ybulkgbai
open Go.RowKit Go.Zz Go.Maps

/-- the link had still to bring the message -/
def hadF (x b : Nat) : Bool := decide (x &&& b ≠ 0)
/-- the row's word behind the link's end -/
def dropF (x b : Nat) : Nat := if x &&& b ≠ 0 then x &&& (18446744073709551615 - b) else x
/-- the row falls free -/
def freed (x b : Nat) : Bool := hadF x b && decide (dropF x b = 0)

theorem nodup_fr (N : Nat) (p : Nat → Bool) : ((List.range N).filter p).Nodup := by
  rw [List.nodup_iff_pairwise_ne]
  exact (List.nodup_iff_pairwise_ne.1 List.nodup_range).filter p

theorem perm_snoc {N j : Nat} {fl : List Nat} {p p' : Nat → Bool} (h : fl.Perm ((List.range N).filter p)) (hj : j < N) (hp : p j = false) (hp' : p' j = true) (ho : ∀ i, i < N → i ≠ j → p' i = p i) : (fl ++ [j]).Perm ((List.range N).filter p') := by
  have hm : ∀ i, i ∈ fl ↔ i < N ∧ p i = true := fun i => by rw [h.mem_iff, List.mem_filter, List.mem_range]
  refine (List.perm_ext_iff_of_nodup ?_ (nodup_fr _ _)).2 fun i => ?_
  · rw [List.nodup_append]
    refine ⟨h.nodup_iff.2 (nodup_fr _ _), by simp, fun a ha c hc => ?_⟩
    simp only [List.mem_singleton] at hc
    rw [hc]
    intro e
    rw [e] at ha
    have := ((hm j).1 ha).2
    rw [hp] at this
    cases this
  · rw [List.mem_append, hm, List.mem_filter, List.mem_range, List.mem_singleton]
    by_cases e : i = j
    · subst e
      simp [hj, hp']
    · simp only [e, or_false]
      constructor
      · rintro ⟨h1, h2⟩
        exact ⟨h1, by rw [ho i h1 e]; exact h2⟩
      · rintro ⟨h1, h2⟩
        exact ⟨h1, by rw [← ho i h1 e]; exact h2⟩

theorem cnt_snoc {N j : Nat} {p p' : Nat → Bool} (hj : j < N) (hp : p j = false) (hp' : p' j = true) (ho : ∀ i, i < N → i ≠ j → p' i = p i) : cnt N p' = cnt N p + 1 := by
  have := (perm_snoc (List.Perm.refl _) hj hp hp' ho).length_eq
  unfold cnt
  rw [← this, List.length_append]
  rfl

theorem cnt_none (N : Nat) (p : Nat → Bool) (h : ∀ i, i < N → p i = false) : cnt N p = 0 := by
  unfold cnt
  rw [List.length_eq_zero_iff, List.filter_eq_nil_iff]
  intro i hi
  rw [h i (List.mem_range.1 hi)]
  simp

theorem snoc_i64 (n : Nat) (h : n ≤ 1000000) : Value.int .i64 (wrap64 ((n : Int) + 1)) = .int .i64 ((n + 1 : Nat) : Int) := by
  have : wrap64 ((n : Int) + 1) = ((n + 1 : Nat) : Int) := by unfold wrap64; omega
  rw [this]

/-- the copies while dropLink ranges over the rows; L i: row i is still to come -/
structure DI (w wr : World) (B eb it N b sl : Nat) (e : EV) (bt : Nat → Nat) (L : Nat → Bool) (c : Nat) (fl : List Nat) (fv : Value) : Prop where
  hE : E wr eb { e with free := fv }
  hF : Vec wr B 3 1 fv fl.length (lf fl)
  perm : fl.Perm ((List.range N).filter (fun i => freed (bt i) b && !L i))
  hV : Vec wr B 37 1 e.bits N (fun i => .int .u64 ((if L i then bt i else dropF (bt i) b : Nat) : Int))
  hM : RX wr Yba.prog 59 e.rm it N (fun i => kv i 1) iv (fun i => !(freed (bt i) b) || L i) L c
  hS : Vec wr B 37 1 e.slots 1 (fun _ => .int .u64 (sl : Int))
  hK : Kept (eb :: e.rm :: (e.bits.ownBlock.toList ++ e.slots.ownBlock.toList)) w wr
  hfv : ∀ x, fv.ownBlock = some x → w.heap.size ≤ x

theorem vec_iter {w : World} {B n size x : Nat} {t : TypeId} {v : Value} {f : Nat → Value} (hi : ∃ p q r s, w.heap[x]? = some (.mapIter p q r s)) (hv : Vec w B t size v n f) : v.ownBlock ≠ some x := by
  rcases hv.2 with ⟨h1, _⟩ | ⟨c, cap, cur, h1, h2, h3, _⟩
  · rw [h1]; simp [Value.ownBlock]
  · intro hb
    rw [h1] at hb
    simp only [Value.ownBlock, Option.some.injEq] at hb
    subst hb
    obtain ⟨p, q, r, s, hi⟩ := hi
    rw [h3] at hi
    cases hi

theorem row_iter {w : World} {b n x : Nat} {t : TypeId} {f : Nat → Value} (hi : ∃ p q r s, w.heap[x]? = some (.mapIter p q r s)) (hv : w.rowIs b t n f) : x ≠ b := by
  intro e
  obtain ⟨p, q, r, s, hi⟩ := hi
  obtain ⟨c, hc, _⟩ := hv
  rw [e, hc] at hi
  cases hi

theorem DI.congr {w wr : World} {B eb it N b sl c : Nat} {e : EV} {bt : Nat → Nat} {L L' : Nat → Bool} {fl : List Nat} {fv : Value} (h : DI w wr B eb it N b sl e bt L c fl fv) (hL : ∀ i, i < N → L i = L' i) : DI w wr B eb it N b sl e bt L' c fl fv where
  hE := h.hE
  hF := h.hF
  perm := by
    rw [← List.filter_congr (p := fun i => freed (bt i) b && !L i) (fun i hi => by rw [hL i (List.mem_range.1 hi)])]
    exact h.perm
  hV := h.hV.congr fun i hi => by rw [hL i (by omega)]
  hM := h.hM.congr (fun i hi => by rw [hL i hi]) hL
  hS := h.hS
  hK := h.hK
  hfv := h.hfv

attribute [-go_sem] Builtin.append_

set_option maxRecDepth 100000 in
/-- (*copies).dropLink -/
theorem dropLink_any (eb B N s b sl : Nat) (e : EV) (w : World) (bt : Nat → Nat) (hs : s < 6) (hb : 2 ^ s = b) (hE : E w eb e) (hB : B ≤ eb) (hW : e.words = 1) (hfree : e.free = .slice none 0 0) (hN : N ≤ 4096) (hbt : ∀ i, bt i < 64) (hsl : sl < 64)
    (hV : Vec w B 37 1 e.bits N (fun i => .int .u64 (bt i : Int))) (hS : Vec w B 37 1 e.slots 1 (fun _ => .int .u64 (sl : Int))) (hdis : ∀ x, e.slots.ownBlock = some x → e.bits.ownBlock ≠ some x)
    (hM : IX w Yba.prog 59 e.rm N (fun i => kv i 1) iv (fun _ => true)) :
    Calls Yba.prog 28 #[.pointer (some ⟨eb, 5, none⟩), .int .i64 (s : Int)] w fun x w' => x = .returned (.int .i64 (cnt N (fun i => hadF (bt i) b) : Int)) ∧
      ∃ fl fv it c, DI w w' B eb it N b (sl &&& (18446744073709551615 - b)) e bt (fun _ => false) c fl fv := by
  have hb0 : 0 < b := by rw [← hb]; exact Nat.two_pow_pos _
  have hb6 : b < 64 := by
    rw [← hb]
    rcases (show s = 0 ∨ s = 1 ∨ s = 2 ∨ s = 3 ∨ s = 4 ∨ s = 5 by omega) with rfl | rfl | rfl | rfl | rfl | rfl <;> decide
  have hbit := bitOf_small s w hs
  rw [hb] at hbit
  have HBIT := hid hbit
  obtain ⟨sb, sc, hsv⟩ : ∃ sb sc, e.slots = .slice (some ⟨sb, 0, none⟩) 1 sc := by
    rcases hS.shape with ⟨_, h0⟩ | ⟨sb, sc, h, _⟩
    · cases h0
    · exact ⟨sb, sc, h⟩
  have c5 := hE.c5
  have c9 := hE.c9
  rw [hsv] at c9
  have hS0 := hS
  rw [hsv] at hS0
  have s0 : w.cell? ⟨sb, 0, none⟩ = some (.int .u64 (sl : Int)) := hS0.cell (j := 0) (by omega)
  have g0 : w.frozen? ⟨sb, 0, none⟩ = false := hS0.frozen 0
  have q1 : bits .andNot .u64 (sl : Int) (b : Int) = ((sl &&& (18446744073709551615 - b) : Nat) : Int) := u64_andNot_nat sl b (by omega) (by omega)
  have hse : sb ≠ eb := vec_tag hS0 hE (by decide)
  have hsm : e.slots.ownBlock ≠ some e.rm := ix_vec hM hS
  have HE := hid hE
  have HV := hid hV
  have HS := hid hS0
  have HM := hid hM
  have HD := hid hdis
  have HSV := hid hsv
  have HSM := hid hsm
  have HW := hid hW
  have HFR := hid hfree
  have HBT := hid hbt
  have HSZ := hid (World.rowIs.lt hE)
  clear hbit hE hV hS hS0 hM hdis hsv hsm hW hfree hbt hb hs
  go_enter Yba.func28, Yba.ntmps28
  go_upto_region 4 with (go_at_call 39; refine HBIT.out.mono ?_; rintro x w1 ⟨rfl, q, rfl⟩)
  refine wp_gen (fun w2 hw2 => ?_)
  have hE2 : E w2 eb e := by
    rw [hw2]
    exact World.rowIs.setOther (w := w.drewN q) HE.out (fun h => hse h.symm) _
  have hV2 : Vec w2 B 37 1 e.bits N (fun i => .int .u64 (bt i : Int)) := by
    rw [hw2]
    exact vec_set (w := w.drewN q) HV.out (fun h => HD.out sb (by rw [HSV.out]; rfl) h) _
  have hS2 : Vec w2 B 37 1 e.slots 1 (fun _ => .int .u64 ((sl &&& (18446744073709551615 - b) : Nat) : Int)) := by
    rw [hw2, HSV.out]
    exact (Vec.set (w := w.drewN q) HS.out 0 _).congr fun j hj => by (obtain rfl : j = 0 := by omega); simp
  have hM2 : IX w2 Yba.prog 59 e.rm N (fun i => kv i 1) iv (fun _ => true) := by
    rw [hw2]
    exact HM.out.of_block (Deep.blk_setCell_other _ _ _ _ (fun h => HSM.out (by rw [HSV.out]; simp [Value.ownBlock, h])))
  have hK2 : Kept (eb :: e.rm :: (e.bits.ownBlock.toList ++ e.slots.ownBlock.toList)) w w2 := by
    rw [hw2]
    exact ((Kept.refl _ w).drewN q).setCell (.inl (by rw [HSV.out]; simp [Value.ownBlock])) _
  have d5 := hE2.c5
  have hsz2 := hK2.size
  clear hw2 c5 c9 s0 g0 q1 HBIT
  go_wp2_with (at_range; refine wpList_range_ix _ rfl _ 45 rfl 59 3 k59 Yba.underlying45 e.rm N (fun i => kv i 1) iv (fun _ => true) rfl hM2 ?_; intro w3 hrg3 hg3 hs3)
  go_frame
  have h0 : DI w w3 B eb w2.heap.size N b (sl &&& (18446744073709551615 - b)) e bt (fun _ => true) (cnt N (fun _ => true)) [] (.slice none 0 0) := by
    refine ⟨?_, Vec.nil _ _ _ _ _, ?_, ?_, ?_, ?_, ?_, ?_⟩
    · have : ({ e with free := .slice none 0 0 } : EV) = e := by rw [← HFR.out]
      rw [this]
      exact rowIs_grown hE2 hg3 (by simp)
    · rw [List.filter_eq_nil_iff.2 (fun i _ => by simp)]
    · exact Vec.kept hV2 hg3 (by cases h : e.bits.ownBlock <;> simp)
    · exact hrg3.congr (fun i _ => by simp) (fun i _ => rfl)
    · exact Vec.kept hS2 hg3 (by cases h : e.slots.ownBlock <;> simp)
    · exact hK2.grown hg3 (fun k hk => by cases hk)
    · intro x hx
      simp [Value.ownBlock] at hx
  have H0 := hid h0
  clear h0 hE2 hV2 hS2 hM2 hK2 d5 hrg3 hg3 hs3
  go_loopw [7, 8, 9, 10] (fun d _ _ _ wr => ∃ L c fl fv, d = .int .i64 ((cnt N (fun i => hadF (bt i) b && !L i) : Nat) : Int) ∧ DI w wr B eb w2.heap.size N b (sl &&& (18446744073709551615 - b)) e bt L c fl fv) (fun _ _ _ _ wr => wr.rangeLeft e.rm w2.heap.size)
  case atStart =>
    refine ⟨_, _, _, _, ?_, H0.out⟩
    rw [cnt_none _ _ (fun i _ => by simp)]
    rfl
  case round =>
    obtain ⟨L, c, fl, fv, rfl, hD⟩ := hrel
    go_wp2_with (at_next; refine wpList_next_ix _ rfl _ rfl 59 k59 e.rm w2.heap.size N (fun i => kv i 1) iv (fun i => !(freed (bt i) b) || L i) L c rfl hD.hM (fun j _ h => by simp [h]) ?_ ?_)
    · intro hl0
      go_wp2
      go_ret
      refine ⟨?_, fl, fv, _, c, hD.congr hl0⟩
      rw [cnt_congr (M' := fun i => hadF (bt i) b) fun i hi => by rw [hl0 i hi]; simp]
      rfl
    · intro j w4 c4 hj hLj hrg4 hlt4 hg4 hs4 hen
      have hD4 := hid hD
      clear hD hs4
      unfold kv iv at hen
      have hit := hD4.out.hM.iter
      have n1 : w2.heap.size ≠ eb := row_iter hit hD4.out.hE
      have n2 : fv.ownBlock ≠ some w2.heap.size := vec_iter hit hD4.out.hF
      have n3 : e.bits.ownBlock ≠ some w2.heap.size := vec_iter hit hD4.out.hV
      have n4 : e.slots.ownBlock ≠ some w2.heap.size := vec_iter hit hD4.out.hS
      obtain ⟨bb, cap, hbits, hcap⟩ : ∃ bb cap, e.bits = .slice (some ⟨bb, 0, none⟩) N cap ∧ N ≤ cap := by
        rcases hD4.out.hV.shape with ⟨_, h0⟩ | ⟨bb, cap, h, _, _, h2, _⟩
        · omega
        · exact ⟨bb, cap, h, h2⟩
      clear hit
      go_upto_region 7 with go_in
      refine wp_gen (fun w5 hw5 => ?_)
      have hE5 : E w5 eb { e with free := fv } := by
        rw [hw5]
        exact (rowIs_grown hD4.out.hE hg4 (fun h => n1 (by simpa using h.symm))).alloc _
      have hF5 : Vec w5 B 3 1 fv fl.length (lf fl) := by
        rw [hw5]
        exact (hD4.out.hF.kept hg4 (.inr n2)).alloc _
      have hV5 : Vec w5 B 37 1 (.slice (some ⟨bb, 0, none⟩) N cap) N (fun i => .int .u64 ((if L i then bt i else dropF (bt i) b : Nat) : Int)) := by
        rw [hw5, ← hbits]
        exact (hD4.out.hV.kept hg4 (.inr n3)).alloc _
      have hS5 : Vec w5 B 37 1 e.slots 1 (fun _ => .int .u64 ((sl &&& (18446744073709551615 - b) : Nat) : Int)) := by
        rw [hw5]
        exact (hD4.out.hS.kept hg4 (.inr n4)).alloc _
      have hM5 := hrg4.alloc (.cells #[.int .u64 (j : Int), .int .u64 1] 59)
      rw [← hw5] at hM5
      have hK5 : Kept (eb :: e.rm :: (e.bits.ownBlock.toList ++ e.slots.ownBlock.toList)) w w5 := by
        rw [hw5]
        exact (hD4.out.hK.grown hg4 (fun k hk => .inr (by cases hk; exact hsz2))).alloc _
      have hX5 : w5.rowIs w4.heap.size 59 2 (fun i => if i = 0 then .int .u64 (j : Int) else .int .u64 1) := by
        rw [hw5]
        exact ⟨_, Deep.blk_alloc_new _ _, rfl, fun i hi => by rcases i with _ | _ | i <;> first | rfl | omega⟩
      have hc4 : w5.rangeLeft e.rm w2.heap.size < wr.rangeLeft e.rm w2.heap.size := by
        rw [hM5.left_eq, hD4.out.hM.left_eq]
        exact hlt4
      have hpm := hD4.out.perm
      have hfv := hD4.out.hfv
      clear hD4 hw5 hrg4 hlt4 hg4 hen n1 n2 n3 n4
      have hrow := row_one eb { e with free := fv } w5 bb N cap j hE5 hbits HW.out hj hcap (by omega)
      have HROW := hid hrow
      have x5 : w5.cell? ⟨bb, j, none⟩ = some (.int .u64 (bt j : Int)) := by
        rw [hV5.cell (by omega), if_pos hLj]
      have hbtj := HBT.out j
      have q2 : bits .and .u64 (bt j : Int) (b : Int) = ((bt j &&& b : Nat) : Int) := u64_and_nat _ _ (by omega) (by omega)
      have HE5 := hid hE5
      have HF5 := hid hF5
      have HV5 := hid hV5
      have HS5 := hid hS5
      have HM5 := hid hM5
      have HK5 := hid hK5
      have HX5 := hid hX5
      have HC4 := hid hc4
      have HPM := hid hpm
      have HFV := hid hfv
      have HB := hid hbits
      clear hrow hE5 hF5 hV5 hS5 hM5 hK5 hX5 hc4 hpm hfv hbits
      go_upto_region 8 with (go_at_call 40; refine HROW.out.mono ?_; rintro x w6 ⟨rfl, q6, rfl⟩)
      by_cases hh : bt j &&& b = 0
      · have e1 : (((bt j &&& b : Nat) : Int) != 0) = false := by rw [hh]; rfl
        go_wp2
        go_roundw
        case rel =>
          have hhad : hadF (bt j) b = false := by unfold hadF; simp [hh]
          have hfr : freed (bt j) b = false := by unfold freed; rw [hhad]; rfl
          have hdr : dropF (bt j) b = bt j := by unfold dropF; simp [hh]
          refine ⟨fun i => L i && !decide (i = j), c4, fl, fv, ?_, HE5.out, HF5.out, ?_, ?_, HM5.out.congr (fun i hi => ?_) (fun i hi => rfl), HS5.out, HK5.out.drewN _, HFV.out⟩
          · rw [cnt_congr fun i hi => ?_]
            by_cases e2 : i = j
            · subst e2; simp [hhad]
            · simp [e2]
          · rw [List.filter_congr (q := fun i => freed (bt i) b && !L i) fun i hi => ?_]
            · exact HPM.out
            by_cases e2 : i = j
            · subst e2; simp [hfr]
            · simp [e2]
          · rw [HB.out]
            refine HV5.out.congr fun i hi => ?_
            by_cases e2 : i = j
            · subst e2; simp [hLj, hdr]
            · simp [e2]
          · by_cases e2 : i = j
            · subst e2; simp [hfr]
            · simp [e2]
        case measure =>
          exact HC4.out
      · have e1 : (((bt j &&& b : Nat) : Int) != 0) = true := by simp; omega
        obtain ⟨y, hy⟩ : ∃ y, y = bt j &&& (18446744073709551615 - b) := ⟨_, rfl⟩
        have q3 : bits .andNot .u64 (bt j : Int) (b : Int) = (y : Int) := by rw [hy]; exact u64_andNot_nat _ _ (by omega) (by omega)
        have hdr : dropF (bt j) b = y := by unfold dropF; rw [if_pos hh, hy]
        have hhad : hadF (bt j) b = true := by unfold hadF; simp [hh]
        have g5 : w5.frozen? ⟨bb, j, none⟩ = false := HV5.out.frozen j
        have HH := hid hh
        have HY := hid hy
        have HDR := hid hdr
        have HHAD := hid hhad
        have k0 : w5.cell? ⟨w4.heap.size, 0, none⟩ = some (.int .u64 (j : Int)) := HX5.out.cell (i := 0) (by omega)
        have k1 : w5.cell? ⟨w4.heap.size, 1, none⟩ = some (.int .u64 1) := HX5.out.cell (i := 1) (by omega)
        have hnb : bb ≠ w4.heap.size := vec_tag HV5.out HX5.out (by decide)
        clear hh hy hdr hhad
        go_upto_region 11 with fail
        refine wp_gen (fun w7 hw7 => ?_)
        have hnbe : bb ≠ eb := vec_tag HV5.out HE5.out (by decide)
        have hnbf : fv.ownBlock ≠ some bb := fun h => vec_vec_ne HF5.out HV5.out (by decide) bb h rfl
        have hnbs : e.slots.ownBlock ≠ some bb := fun h => HD.out bb h (by rw [HB.out]; rfl)
        have hnbm : bb ≠ e.rm := fun h => ix_vec HM5.out.ix HV5.out (by rw [h]; rfl)
        have hnbi : bb ≠ w2.heap.size := fun h => vec_iter HM5.out.iter HV5.out (by rw [h]; rfl)
        have hE7 : E w7 eb { e with free := fv } := by
          rw [hw7]
          exact World.rowIs.setOther (w := w5.drewN q6) HE5.out (fun h => hnbe h.symm) _
        have hF7 : Vec w7 B 3 1 fv fl.length (lf fl) := by
          rw [hw7]
          exact vec_set (w := w5.drewN q6) HF5.out hnbf _
        have hV7 : Vec w7 B 37 1 (.slice (some ⟨bb, 0, none⟩) N cap) N (fun i => .int .u64 ((if L i && !decide (i = j) then bt i else dropF (bt i) b : Nat) : Int)) := by
          rw [hw7]
          refine (Vec.set (w := w5.drewN q6) HV5.out j _).congr fun i hi => ?_
          by_cases e2 : i = j
          · subst e2; simp [HDR.out]
          · simp [e2]
        have hS7 : Vec w7 B 37 1 e.slots 1 (fun _ => .int .u64 ((sl &&& (18446744073709551615 - b) : Nat) : Int)) := by
          rw [hw7]
          exact vec_set (w := w5.drewN q6) HS5.out hnbs _
        have hM7 : RX w7 Yba.prog 59 e.rm w2.heap.size N (fun i => kv i 1) iv (fun i => !(freed (bt i) b) || L i) (fun i => L i && !decide (i = j)) c4 := by
          rw [hw7]
          exact HM5.out.of_blocks (Deep.blk_setCell_other _ _ _ _ hnbm.symm) (Deep.blk_setCell_other _ _ _ _ hnbi.symm)
        have hK7 : Kept (eb :: e.rm :: (e.bits.ownBlock.toList ++ e.slots.ownBlock.toList)) w w7 := by
          rw [hw7]
          exact (HK5.out.drewN q6).setCell (.inl (by rw [HB.out]; simp [Value.ownBlock])) _
        have hX7 : w7.rowIs w4.heap.size 59 2 (fun i => if i = 0 then .int .u64 (j : Int) else .int .u64 1) := by
          rw [hw7]
          exact World.rowIs.setOther (w := w5.drewN q6) HX5.out (fun h => hnb h.symm) _
        have k0' : w7.cell? ⟨w4.heap.size, 0, none⟩ = some (.int .u64 (j : Int)) := hX7.cell (i := 0) (by omega)
        have k1' : w7.cell? ⟨w4.heap.size, 1, none⟩ = some (.int .u64 1) := hX7.cell (i := 1) (by omega)
        clear hX7
        have x7 : w7.cell? ⟨bb, j, none⟩ = some (.int .u64 (y : Int)) := by
          rw [hV7.cell (by omega)]
          simp [HDR.out]
        have hc7 : w7.rangeLeft e.rm w2.heap.size < wr.rangeLeft e.rm w2.heap.size := by
          rw [hM7.left_eq, ← HM5.out.left_eq]
          exact HC4.out
        have hlt7 : bb < w7.heap.size := hV7.lt
        have hcn : cnt N (fun i => hadF (bt i) b && !(L i && !decide (i = j))) = cnt N (fun i => hadF (bt i) b && !L i) + 1 := cnt_snoc hj (by simp [hLj]) (by simp [HHAD.out]) (fun i hi e2 => by simp [e2])
        have hcl := cnt_le N (fun i => hadF (bt i) b && !L i)
        have HCN := hid hcn
        have HC7 := hid hc7
        clear hw7 k0 k1 hnb HE5 HF5 HV5 HS5 HM5 HK5 HX5 HC4 hnbe hnbf hnbs hnbm hnbi x5 q2 e1 q3 g5 hcn hc7
        by_cases hy0 : y = 0
        · have hfr : freed (bt j) b = true := by unfold freed; rw [HHAD.out, HDR.out, hy0]; rfl
          have hfl : fl.length ≤ N := by
            rw [HPM.out.length_eq]
            exact cnt_le N _
          have hrel := release_free eb B w2.heap.size { e with free := fv } w7 bb N cap j c4 fl iv _ _ hE7 hB HB.out HW.out hj hcap (by omega) (by rw [x7, hy0]; rfl) hlt7 hM7 hF7 (by omega)
          have HREL := hid hrel
          unfold kv at HREL
          rw [show ((1 : Nat) : Int) = 1 from rfl] at HREL
          have HV7 := hid hV7
          have HS7 := hid hS7
          have HK7 := hid hK7
          have HF7 := hid hF7
          have HM7 := hid hM7
          have HE7 := hid hE7
          clear hrel hE7 hF7 hV7 hS7 hM7 hK7 x7 hfl
          go_wp2_with (go_at_call 41; refine HREL.out.mono ?_; rintro x w8 ⟨rfl, fb, fc, c8, hE8, hF8, hM8, hc8, hfb8, hK8⟩)
          go_roundw
          case rel =>
            refine ⟨fun i => L i && !decide (i = j), c8, fl ++ [j], .slice (some ⟨fb, 0, none⟩) (fl.length + 1) fc, ?_, hE8, by rw [List.length_append]; exact hF8, ?_, ?_, hM8.congr (fun i hi => ?_) (fun i hi => ?_), ?_, ?_, ?_⟩
            · rw [HCN.out]
              exact snoc_i64 _ (by omega)
            · exact perm_snoc HPM.out hj (by simp [hLj]) (by simp [hfr]) (fun i hi e2 => by simp [e2])
            · rw [HB.out]
              refine hK8.vec HV7.out fun z hz => ?_
              have h1 : z ≠ eb := fun h => vec_ne HV7.out HE7.out (by decide) (by rw [hz, h])
              have h2 : z ≠ e.rm := fun h => ix_vec HM7.out.ix HV7.out (by rw [hz, h])
              have h3 : fv.ownBlock ≠ some z := vec_vec_ne HV7.out HF7.out (by decide) z hz
              simp [h1, h2, h3]
            · by_cases e2 : i = j
              · subst e2; simp [hfr]
              · simp [e2]
            · by_cases e2 : i = j
              · subst e2; simp
              · simp [e2]
            · refine hK8.vec HS7.out fun z hz => ?_
              have h1 : z ≠ eb := fun h => vec_ne HS7.out HE7.out (by decide) (by rw [hz, h])
              have h2 : z ≠ e.rm := fun h => ix_vec HM7.out.ix HS7.out (by rw [hz, h])
              have h3 : fv.ownBlock ≠ some z := vec_vec_ne HS7.out HF7.out (by decide) z hz
              simp [h1, h2, h3]
            · refine HK7.out.step hK8 fun z hz => ?_
              simp only [List.mem_cons, Option.mem_toList] at hz
              rcases hz with h | h | h
              · exact .inl (by simp [h])
              · exact .inl (by simp [h])
              · exact .inr (HFV.out z h)
            · intro z hz
              simp only [Value.ownBlock, Option.some.injEq] at hz
              subst hz
              rcases hfb8 with h | h
              · exact HFV.out _ h
              · exact Nat.le_trans HK7.out.size h
          case measure =>
            have h1 := HC7.out
            rw [HM7.out.left_eq] at h1
            rw [hM8.left_eq]
            omega
        · have hfr : freed (bt j) b = false := by unfold freed; rw [HDR.out]; simp [hy0]
          have hrel := release_stay eb j 1 { e with free := fv } w7 bb N cap j y hE7 HB.out HW.out hj hcap (by omega) x7 (by omega) hlt7
          have HREL := hid hrel
          unfold kv at HREL
          rw [show ((1 : Nat) : Int) = 1 from rfl] at HREL
          have HV7 := hid hV7
          have HS7 := hid hS7
          have HK7 := hid hK7
          have HF7 := hid hF7
          have HM7 := hid hM7
          have HE7 := hid hE7
          clear hrel hE7 hF7 hV7 hS7 hM7 hK7 x7
          go_wp2_with (go_at_call 41; refine HREL.out.mono ?_; rintro x w8 ⟨rfl, hb8⟩)
          go_roundw
          case rel =>
            have k8 : Kept [] w7 w8 := Kept.of_below hb8
            refine ⟨fun i => L i && !decide (i = j), c4, fl, fv, ?_, k8.row HE7.out (by simp), k8.vec HF7.out (by simp), ?_, ?_, (HM7.out.of_blocks (k8.block _ HM7.out.ix.lt (by simp)) (k8.block _ HM7.out.lt (by simp))).congr (fun i hi => ?_) (fun i hi => rfl), k8.vec HS7.out (by simp), HK7.out.step k8 (by simp), HFV.out⟩
            · rw [HCN.out]
              exact snoc_i64 _ (by omega)
            · rw [List.filter_congr (q := fun i => freed (bt i) b && !L i) fun i hi => ?_]
              · exact HPM.out
              by_cases e2 : i = j
              · subst e2; simp [hfr]
              · simp [e2]
            · rw [HB.out]
              exact k8.vec HV7.out (by simp)
            · by_cases e2 : i = j
              · subst e2; simp [hfr]
              · simp [e2]
          case measure =>
            have k8 : Kept [] w7 w8 := Kept.of_below hb8
            have h1 := HC7.out
            rw [HM7.out.left_eq] at h1
            rw [(HM7.out.of_blocks (w' := w8) (k8.block _ HM7.out.ix.lt (by simp)) (k8.block _ HM7.out.lt (by simp))).left_eq]
            exact h1
end Go.Proofs.Ybulkgbai
