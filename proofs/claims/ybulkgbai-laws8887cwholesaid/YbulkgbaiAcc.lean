import Derived.Test.YbulkgbaiDrop
import Derived.Deep.RegionWith
namespace Go.Proofs.Ybulkgbai
open Go.RowKit Go.Zz Go.Maps

/-- the sum of buf over the numbers below m with G -/
def tot : Nat → (Nat → Bool) → (Nat → Nat) → Nat
  | 0, _, _ => 0
  | m + 1, G, buf => tot m G buf + if G m then buf m else 0

theorem tot_congr {m : Nat} {G G' : Nat → Bool} {buf : Nat → Nat} (h : ∀ i, i < m → G i = G' i) : tot m G buf = tot m G' buf := by
  induction m with
  | zero => rfl
  | succ m ih => rw [tot, tot, ih fun i hi => h i (by omega), h m (by omega)]

theorem tot_none {m : Nat} {G : Nat → Bool} {buf : Nat → Nat} (h : ∀ i, i < m → G i = false) : tot m G buf = 0 := by
  induction m with
  | zero => rfl
  | succ m ih => rw [tot, ih fun i hi => h i (by omega), h m (by omega)]; rfl

theorem tot_snoc {m j : Nat} {G G' : Nat → Bool} {buf : Nat → Nat} (hj : j < m) (hp : G j = false) (hp' : G' j = true) (ho : ∀ i, i < m → i ≠ j → G' i = G i) : tot m G' buf = tot m G buf + buf j := by
  induction m with
  | zero => omega
  | succ m ih =>
    rw [tot, tot]
    by_cases e : j = m
    · subst e
      rw [tot_congr (G := G') (G' := G) fun i hi => ho i (by omega) (by omega), hp, hp']
      simp
    · rw [ih (by omega) fun i hi hne => ho i (by omega) hne, ho m (by omega) (by omega)]
      omega

/-- the handshakes' structs -/
def AS (w : World) (m : Nat) (pa la lb : Nat → Nat) : Prop := ∀ j, j < m → la j < 4 ∧ lb j < 4 ∧ ∃ F aa ca ab cb, w.rowIs (pa j) 71 4 F ∧ F 2 = .slice aa (la j) ca ∧ F 3 = .slice ab (lb j) cb

theorem AS.kept {S : List Nat} {w w' : World} {m : Nat} {pa la lb : Nat → Nat} (h : AS w m pa la lb) (hk : Kept S w w') (hS : ∀ j, j < m → pa j ∉ S) : AS w' m pa la lb := fun j hj => by
  obtain ⟨h1, h2, F, aa, ca, ab, cb, h3, h4⟩ := h j hj
  exact ⟨h1, h2, F, aa, ca, ab, cb, hk.row h3 (hS j hj), h4⟩

theorem AS.row_ne {w : World} {m b n j : Nat} {t : TypeId} {f : Nat → Value} {pa la lb : Nat → Nat} (h : AS w m pa la lb) (hj : j < m) (hr : w.rowIs b t n f) (ht : t ≠ 71) : pa j ≠ b := by
  obtain ⟨_, _, F, aa, ca, ab, cb, ⟨c, hc, _⟩, _⟩ := h j hj
  obtain ⟨c', hc', _⟩ := hr
  intro e
  rw [e, hc'] at hc
  simp only [Option.some.injEq, Obj.cells.injEq] at hc
  exact ht hc.2.1

theorem AS.ix_ne {w : World} {P : Program} {k : TypeId} {m n b j : Nat} {K V : Nat → Value} {M : Nat → Bool} {pa la lb : Nat → Nat} (h : AS w m pa la lb) (hj : j < m) (hM : IX w P k b n K V M) : pa j ≠ b := by
  obtain ⟨_, _, F, aa, ca, ab, cb, hr, _⟩ := h j hj
  exact fun e => Ybulkgbai.ix_ne hM hr e.symm

theorem AS.vec_ne {w : World} {B n size m j : Nat} {t : TypeId} {v : Value} {f : Nat → Value} {pa la lb : Nat → Nat} (h : AS w m pa la lb) (hj : j < m) (hv : Vec w B t size v n f) (ht : t ≠ 71) : v.ownBlock ≠ some (pa j) := by
  obtain ⟨_, _, F, aa, ca, ab, cb, hr, _⟩ := h j hj
  exact Ybulkgbai.vec_ne hv hr (fun e => ht e.symm)

/-- is the handshake one of the links from fr up to n -/
def hit (f nn : Nat → Nat) (fr n : Nat) (j : Nat) : Bool := decide (f j = fr) && decide (nn j ≤ n)

def ptr (pa : Nat → Nat) (j : Nat) : Value := .pointer (some ⟨pa j, 0, none⟩)

/-- the accepting map while dropAccepting ranges over it -/
structure AI (w wr : World) (eb it m : Nat) (e : EV) (f nn pa la lb : Nat → Nat) (M0 : Nat → Bool) (fr n : Nat) (L : Nat → Bool) (c : Nat) : Prop where
  hE : E wr eb { e with ent := IntKind.i64.wrap (e.ent - (tot m (fun j => M0 j && hit f nn fr n j && !L j) (fun j => la j + lb j) : Nat)) }
  hM : RX wr Yba.prog 65 e.ac it m (fun j => lv (f j) (nn j)) (ptr pa) (fun j => M0 j && !(hit f nn fr n j && !L j)) L c
  hK : Kept [eb, e.ac] w wr
  hL : ∀ j, j < m → L j = true → M0 j = true

theorem wrap_sub (a b c : Int) : IntKind.i64.wrap (IntKind.i64.wrap (a - b) - c) = IntKind.i64.wrap (a - (b + c)) := by
  rw [IntKind.wrap_i64, IntKind.wrap_i64, IntKind.wrap_i64]
  omega

set_option maxRecDepth 100000 in
/-- (*Engine).dropAccepting -/
theorem dropAcc_any (eb m fr n : Nat) (e : EV) (w : World) (f nn pa la lb : Nat → Nat) (M0 : Nat → Bool) (hE : E w eb e) (hent : IntKind.i64.wrap e.ent = e.ent) (hA : AS w m pa la lb)
    (hM : IX w Yba.prog 65 e.ac m (fun j => lv (f j) (nn j)) (ptr pa) M0) :
    Calls Yba.prog 23 #[.pointer (some ⟨eb, 0, none⟩), .int .u32 (fr : Int), .int .u64 (n : Int)] w fun x w' => (∃ d, x = .returned (.bool d)) ∧
      E w' eb { e with ent := IntKind.i64.wrap (e.ent - (tot m (fun j => M0 j && hit f nn fr n j) (fun j => la j + lb j) : Nat)) } ∧ IX w' Yba.prog 65 e.ac m (fun j => lv (f j) (nn j)) (ptr pa) (fun j => M0 j && !hit f nn fr n j) ∧ Kept [eb, e.ac] w w' := by
  have c11 := hE.c11
  have hnem : e.ac ≠ eb := ix_ne hM hE
  have hp : ∀ j, j < m → pa j ∉ [eb, e.ac] := fun j hj => by
    have h1 := hA.row_ne hj hE (by decide)
    have h2 := hA.ix_ne hj hM
    simp [h1, h2]
  have HE := hid hE
  have HM := hid hM
  have HA := hid hA
  have HENT := hid hent
  have HP := hid hp
  clear hE hA hent hp hM
  go_enter Yba.func23, Yba.ntmps23
  go_wp2_with (at_range; refine wpList_range_ix _ rfl _ 49 rfl 65 67 k65 Yba.underlying49 e.ac m (fun j => lv (f j) (nn j)) (ptr pa) M0 rfl HM.out ?_; intro w3 hrg3 hg3 hs3)
  go_frame
  have h0 : AI w w3 eb w.heap.size m e f nn pa la lb M0 fr n M0 (cnt m M0) := by
    refine ⟨?_, ?_, (Kept.refl _ w).grown hg3 (fun k hk => by cases hk), fun j _ h => h⟩
    · rw [tot_none fun i hi => by cases M0 i <;> simp]
      have : ({ e with ent := IntKind.i64.wrap (e.ent - ((0 : Nat) : Int)) } : EV) = e := by
        rw [show e.ent - ((0 : Nat) : Int) = e.ent by omega, HENT.out]
      rw [this]
      exact rowIs_grown HE.out hg3 (by simp)
    · exact hrg3.congr (fun j _ => by cases M0 j <;> simp) (fun j _ => rfl)
  have H0 := hid h0
  clear h0 c11 hrg3 hg3 hs3
  go_loopw [7, 8, 9] (fun d _ _ wr => (∃ d', d = .bool d') ∧ ∃ L c, AI w wr eb w.heap.size m e f nn pa la lb M0 fr n L c) (fun _ _ _ wr => wr.rangeLeft e.ac w.heap.size)
  case atStart => exact ⟨⟨_, rfl⟩, _, _, H0.out⟩
  case round =>
    obtain ⟨⟨d', rfl⟩, L, c, hD⟩ := hrel
    go_wp2_with (at_next; refine wpList_next_ix _ rfl _ rfl 65 k65 e.ac w.heap.size m (fun j => lv (f j) (nn j)) (ptr pa) (fun j => M0 j && !(hit f nn fr n j && !L j)) L c rfl hD.hM (fun j hj h => by simp [h, hD.hL j hj h]) ?_ ?_)
    · intro hl0
      go_wp2
      go_ret
      refine ⟨⟨_, rfl⟩, ?_, ?_, hD.hK⟩
      · rw [tot_congr (G := fun j => M0 j && hit f nn fr n j) (G' := fun j => M0 j && hit f nn fr n j && !L j) fun i hi => by rw [hl0 i hi]; simp]
        exact hD.hE
      · exact hD.hM.ix.congr (fun i hi => by rw [hl0 i hi]; simp) (fun _ _ _ => rfl)
    · intro j w4 c4 hj hLj hrg4 hlt4 hg4 hs4 hen
      have hD4 := hid hD
      clear hD hs4
      unfold lv ptr at hen
      have n1 : w.heap.size ≠ eb := row_iter hD4.out.hM.iter hD4.out.hE
      go_upto_region 5 with go_in
      refine wp_gen (fun w5 hw5 => ?_)
      have hE5 : E w5 eb { e with ent := IntKind.i64.wrap (e.ent - (tot m (fun j => M0 j && hit f nn fr n j && !L j) (fun j => la j + lb j) : Nat)) } := by
        rw [hw5]
        exact (rowIs_grown hD4.out.hE hg4 (fun h => n1 (by simpa using h.symm))).alloc _
      have hM5 := hrg4.alloc (.cells #[.int .u32 (f j : Int), .int .u64 (nn j : Int)] 65)
      rw [← hw5] at hM5
      have hK5 : Kept [eb, e.ac] w w5 := by
        rw [hw5]
        exact (hD4.out.hK.grown hg4 (fun k hk => .inr (by cases hk; exact Nat.le_refl _))).alloc _
      have hX5 : w5.rowIs w4.heap.size 65 2 (fun i => if i = 0 then .int .u32 (f j : Int) else .int .u64 (nn j : Int)) := by
        rw [hw5]
        exact ⟨_, Deep.blk_alloc_new _ _, rfl, fun i hi => by rcases i with _ | _ | i <;> first | rfl | omega⟩
      have hc4 : w5.rangeLeft e.ac w.heap.size < wr.rangeLeft e.ac w.heap.size := by
        rw [hM5.left_eq, hD4.out.hM.left_eq]
        exact hlt4
      have HL := hid hD4.out.hL
      have hA5 : AS w5 m pa la lb := HA.out.kept hK5 HP.out
      have hM0j := HL.out j hj hLj
      clear hD4 hw5 hrg4 hlt4 hg4 hen n1
      have k0 : w5.cell? ⟨w4.heap.size, 0, none⟩ = some (.int .u32 (f j : Int)) := hX5.cell (i := 0) (by omega)
      have k1 : w5.cell? ⟨w4.heap.size, 1, none⟩ = some (.int .u64 (nn j : Int)) := hX5.cell (i := 1) (by omega)
      have HE5 := hid hE5
      have HM5 := hid hM5
      have HK5 := hid hK5
      have HA5 := hid hA5
      have HX5 := hid hX5
      have HC4 := hid hc4
      clear hE5 hM5 hK5 hA5 hX5 hc4
      by_cases hh : hit f nn fr n j = true
      · have h1 : f j = fr := by unfold hit at hh; simp at hh; exact hh.1
        have h2 : nn j ≤ n := by unfold hit at hh; simp at hh; exact hh.2
        have e1 : ((f j : Int) == (fr : Int)) = true := by simp [h1]
        have e2 : decide (nn j ≤ n) = true := by simp [h2]
        have HH := hid hh
        obtain ⟨w6, c6, hdel, hM6, hc6, hgr6⟩ := RX.drop (w := w5.drew) k65 Yba.underlying49 (e := 67) HM5.out hj (key := lv (f j) (nn j)) rfl 0
        unfold lv at hdel
        have d11 := HE5.out.c11
        have hE6 : E w6 eb { e with ent := IntKind.i64.wrap (e.ent - (tot m (fun j => M0 j && hit f nn fr n j && !L j) (fun j => la j + lb j) : Nat)) } := rowIs_grown (w := w5.drew) HE5.out hgr6 (fun h => hnem (by simpa using h.symm))
        have hK6 : Kept [eb, e.ac] w w6 := HK5.out.drew.grown hgr6 (fun k hk => .inl (by simp at hk; simp [hk]))
        have hA6 : AS w6 m pa la lb := HA.out.kept hK6 HP.out
        obtain ⟨hla, hlb, F, aa, ca, ab, cb, hr6, hF2, hF3⟩ := hA6 j hj
        have p2 : w6.cell? ⟨pa j, 2, none⟩ = some (.slice aa (la j) ca) := by rw [← hF2]; exact hr6.cell (i := 2) (by omega)
        have p3 : w6.cell? ⟨pa j, 3, none⟩ = some (.slice ab (lb j) cb) := by rw [← hF3]; exact hr6.cell (i := 3) (by omega)
        have g17 := hE6.c17
        have f17 := hE6.fz 17
        have P2 := hid p2
        have P3 := hid p3
        have HE6 := hid hE6
        have HK6 := hid hK6
        have HM6 := hid hM6
        have hnie : w.heap.size ≠ eb := row_iter hM6.iter hE6
        have hc6' : w6.rangeLeft e.ac w.heap.size < wr.rangeLeft e.ac w.heap.size := by
          have h := HC4.out
          rw [HM5.out.left_eq] at h
          rw [hM6.left_eq]
          omega
        have HC6 := hid hc6'
        have ht : tot m (fun i => M0 i && hit f nn fr n i && !(L i && !decide (i = j))) (fun j => la j + lb j) = tot m (fun i => M0 i && hit f nn fr n i && !L i) (fun j => la j + lb j) + (la j + lb j) := tot_snoc hj (by simp [hLj]) (by simp [hM0j, HH.out]) (fun i hi e3 => by simp [e3])
        have HT := hid ht
        clear hh h1 h2 p2 p3 hE6 hK6 hM6 hgr6 hA6 hr6 hF2 hF3 hc6 hc6' ht
        obtain ⟨T0, hT0⟩ : ∃ T0, T0 = IntKind.i64.wrap (e.ent - (tot m (fun i => M0 i && hit f nn fr n i && !L i) (fun j => la j + lb j) : Nat)) := ⟨_, rfl⟩
        rw [← hT0] at g17
        have HT0 := hid hT0
        clear hT0
        have HFIN : Hid (∀ q, AI w ((w6.drewN q).setCell ⟨eb, 17, none⟩ (.int .i64 (IntKind.i64.wrap (T0 - ((la j : Int) + (lb j : Int)))))) eb w.heap.size m e f nn pa la lb M0 fr n (fun i => L i && !decide (i = j)) c6) := by
          intro q
          have hM : RX ((w6.drewN q).setCell ⟨eb, 17, none⟩ (.int .i64 (IntKind.i64.wrap (T0 - ((la j : Int) + (lb j : Int)))))) Yba.prog 65 e.ac w.heap.size m (fun j => lv (f j) (nn j)) (ptr pa) _ _ c6 := HM6.out.of_blocks (Deep.blk_setCell_other _ _ _ _ hnem) (Deep.blk_setCell_other _ _ _ _ hnie)
          refine ⟨?_, hM.congr (fun i hi => ?_) (fun i hi => ?_), (HK6.out.drewN q).setCell (.inl (by simp)) _, fun i hi h => HL.out i hi (by simp at h; exact h.1)⟩
          · have h := E.ent (w := w6.drewN q) HE6.out (IntKind.i64.wrap (T0 - ((la j : Int) + (lb j : Int))))
            rw [HT.out]
            have e3 : IntKind.i64.wrap (T0 - ((la j : Int) + (lb j : Int))) = IntKind.i64.wrap (e.ent - ((tot m (fun i => M0 i && hit f nn fr n i && !L i) (fun j => la j + lb j) + (la j + lb j) : Nat) : Int)) := by
              rw [HT0.out, wrap_sub]
              congr 1
            rw [← e3]
            exact h
          · by_cases e3 : i = j
            · subst e3; simp [HH.out]
            · simp [e3]
          · by_cases e3 : i = j
            · subst e3; simp
            · simp [e3]
        go_upto_region 6 with fail
        go_region
        go_wp2_with fail
        go_region_with (go_at_call 29; refine (buffered_any (pa j) (la j) (lb j) ca cb aa ab w6.drew P2.out P3.out hla hlb).mono ?_; rintro x w7 ⟨rfl, q7, rfl⟩)
        all_goals
          go_wp2
          go_roundw
          case rel => exact ⟨⟨_, rfl⟩, _, _, HFIN.out _⟩
          case measure =>
            rw [(HFIN.out _).hM.left_eq, ← HM6.out.left_eq]
            exact HC6.out
      · have hh' : hit f nn fr n j = false := by simpa using hh
        have HH := hid hh'
        have hgo : (∃ d'_1, Value.bool d' = Value.bool d'_1) ∧ ∃ L c, AI w w5 eb w.heap.size m e f nn pa la lb M0 fr n L c := by
          refine ⟨⟨_, rfl⟩, fun i => L i && !decide (i = j), c4, ?_, HM5.out.congr (fun i hi => ?_) (fun _ _ => rfl), HK5.out, fun i hi h => HL.out i hi (by simp at h; exact h.1)⟩
          · rw [tot_congr (G := fun i => M0 i && hit f nn fr n i && !(L i && !decide (i = j))) (G' := fun i => M0 i && hit f nn fr n i && !L i) fun i hi => ?_]
            · exact HE5.out
            by_cases e3 : i = j
            · subst e3; simp [hh']
            · simp [e3]
          · by_cases e3 : i = j
            · subst e3; simp [hh']
            · simp [e3]
        have HGO := hid hgo
        clear hh hgo
        by_cases h1 : f j = fr
        · have h2 : ¬ nn j ≤ n := fun h2 => by unfold hit at hh'; simp [h1, h2] at hh'
          have e1 : ((f j : Int) == (fr : Int)) = true := by simp [h1]
          have e2 : decide (nn j ≤ n) = false := by simp; omega
          clear hh' h1 h2
          go_wp2
          go_roundw
          case rel => exact HGO.out
          case measure => exact HC4.out
        · have e1 : ((f j : Int) == (fr : Int)) = false := by simp; omega
          clear hh' h1
          go_wp2
          go_roundw
          case rel => exact HGO.out
          case measure => exact HC4.out
end Go.Proofs.Ybulkgbai
