import Derived.Test.YbulkgbaiEnd
namespace Go.Proofs.Ybulkgbai
open Go.RowKit Go.Zz Go.Maps

/-- the state behind Ended -/
def EndPost (w w4 : World) (eb B fr n b : Nat) (g : Bool) (e : EV) (D : Dat) : Prop :=
  ∃ fl fv, ST w4 B eb { e with free := fv, ent := IntKind.i64.wrap (e.ent - ((cnt D.N (fun r => hadF (D.bw r) b) + tot D.m (del D fr n g) (fun j => D.la j + D.lb j) : Nat) : Int)) } (endD D fr n b g fl) ∧
    fl.Perm ((List.range D.N).filter (fun r => freed (D.bw r) b)) ∧ Kept (eb :: e.inc :: e.rm :: e.ac :: e.ar :: (e.bits.ownBlock.toList ++ e.slots.ownBlock.toList)) w w4

/-- what Ended does behind its first step -/
def EndRest (w1 : World) (eb B fr n b : Nat) (g : Bool) (e : EV) (D : Dat) : Prop :=
  Calls Yba.prog 22 #[.pointer (some ⟨eb, 0, none⟩), .int .u32 (fr : Int)] w1 fun x w2 => (∃ d, x = .returned (.bool d)) ∧
    Calls Yba.prog 23 #[.pointer (some ⟨eb, 0, none⟩), .int .u32 (fr : Int), .int .u64 (n : Int)] w2 fun x w3 => (∃ d, x = .returned (.bool d)) ∧
      Calls Yba.prog 24 #[.pointer (some ⟨eb, 0, none⟩), .int .u32 (fr : Int)] w3 fun x w4 => x = .returned (.tuple #[]) ∧
        EndPost w1 w4 eb B fr n b g e D

theorem end_rest (eb B fr n b : Nat) (g : Bool) (e : EV) (D : Dat) (w1 : World) (h : ST w1 B eb e (topD D fr n)) (hB : B ≤ eb) (hfr : fr < 4294967296) (hb : SlotBit D fr b) (hg : Gone D fr g) (hMI : ∀ i, D.MI i = true) (hMR : ∀ r, D.MR r = true) (hMA : ∀ r, D.MA r = true) (hMV : ∀ r, D.MV r = true)
    (hW : e.words = 1) (hfl : D.fl = []) (hfree : e.free = .slice none 0 0) (hN : D.N ≤ 4096) (hR : D.R ≤ 4096) (hbw : ∀ r, D.bw r < 64) (hsl : D.sl < 64) (hnn : ∀ j, D.nn j ≤ 18446744073709551615) (hent : IntKind.i64.wrap e.ent = e.ent) : EndRest w1 eb B fr n b g e D := by
  refine (unlink_any eb B fr b e (topD D fr n) w1 h hB hfr hb hMI hMR hW hfl hfree hN hbw hsl hent).mono ?_
  rintro x w2 ⟨hx, fl, fv, h2, hp, hk2⟩
  refine ⟨hx, ?_⟩
  refine (dropAcc_any eb D.m fr n _ w2 D.f D.nn D.pa D.la D.lb D.MA h2.hE (wrap_wrap _) h2.has h2.ac).mono ?_
  rintro y w3 ⟨hy, hE3, hM3, hk3⟩
  refine ⟨hy, ?_⟩
  have h3 := h2.put_ac hk3 hE3 hM3
  refine (leave_any eb B fr g _ _ w3 h3 hfr hg hMV hR (wrap_wrap _)).mono ?_
  rintro z w4 ⟨hz, h4, hk4⟩
  have hhit : ∀ j, hit D.f D.nn fr 18446744073709551615 j = decide (D.f j = fr) := fun j => by unfold hit; simp [hnn j]
  refine ⟨hz, fl, fv, ?_, hp, ?_⟩
  · have ht : tot D.m (del D fr n g) (fun j => D.la j + D.lb j) = tot D.m (fun j => D.MA j && hit D.f D.nn fr n j) (fun j => D.la j + D.lb j) + tot D.m (fun j => (D.MA j && !hit D.f D.nn fr n j) && (g && hit D.f D.nn fr 18446744073709551615 j)) (fun j => D.la j + D.lb j) := by
      refine tot_add fun j _ => ?_
      rw [hMA j, hhit j]
      unfold del hit
      cases decide (D.f j = fr) <;> cases decide (D.nn j ≤ n) <;> cases g <;> simp
    have e1 : IntKind.i64.wrap (e.ent - ((cnt D.N (fun r => hadF (D.bw r) b) + tot D.m (del D fr n g) (fun j => D.la j + D.lb j) : Nat) : Int)) =
        IntKind.i64.wrap (IntKind.i64.wrap (IntKind.i64.wrap (e.ent - (cnt D.N (fun r => hadF (D.bw r) b) : Nat)) - (tot D.m (fun j => D.MA j && hit D.f D.nn fr n j) (fun j => D.la j + D.lb j) : Nat)) - (tot D.m (fun j => (D.MA j && !hit D.f D.nn fr n j) && (g && hit D.f D.nn fr 18446744073709551615 j)) (fun j => D.la j + D.lb j) : Nat)) := by
      rw [wrap_sub, wrap_sub, ht]
      congr 1
    rw [e1]
    refine h4.congr (fun _ _ => rfl) (fun _ _ => rfl) (fun _ _ => rfl) rfl rfl (fun j _ => ?_) (fun _ _ _ => ⟨rfl, rfl⟩) (fun _ _ => rfl)
    show ((D.MA j && !hit D.f D.nn fr n j) && !(g && hit D.f D.nn fr 18446744073709551615 j)) = !(del D fr n g j)
    rw [hMA j, hhit j]
    unfold del hit
    cases decide (D.f j = fr) <;> cases decide (D.nn j ≤ n) <;> cases g <;> simp
  · refine Kept.trans (hk2.mono fun z hz => ?_) (Kept.trans (hk3.mono fun z hz => ?_) (hk4.mono fun z hz => ?_))
    · simp only [List.mem_cons, List.mem_append] at hz ⊢
      rcases hz with hz | hz | hz | hz | hz <;> simp [hz]
    · simp only [List.mem_cons, List.not_mem_nil, or_false] at hz ⊢
      rcases hz with hz | hz <;> simp [hz]
    · simp only [List.mem_cons, List.not_mem_nil, or_false] at hz ⊢
      rcases hz with hz | hz | hz <;> simp [hz]

set_option maxRecDepth 100000 in
/-- (*Engine).Ended -/
theorem ended_any (eb B fr n b : Nat) (g : Bool) (e : EV) (D : Dat) (w : World) (h : ST w B eb e D) (hB : B ≤ eb) (hfr : fr < 4294967296) (hb : SlotBit D fr b) (hg : Gone D fr g) (hMI : ∀ i, D.MI i = true) (hMR : ∀ r, D.MR r = true) (hMA : ∀ r, D.MA r = true) (hMV : ∀ r, D.MV r = true)
    (hW : e.words = 1) (hfl : D.fl = []) (hfree : e.free = .slice none 0 0) (hN : D.N ≤ 4096) (hR : D.R ≤ 4096) (hbw : ∀ r, D.bw r < 64) (hsl : D.sl < 64) (hnn : ∀ j, D.nn j ≤ 18446744073709551615) (hent : IntKind.i64.wrap e.ent = e.ent) :
    Calls Yba.prog 15 #[.pointer (some ⟨eb, 0, none⟩), .int .u32 (fr : Int), .int .u64 (n : Int)] w fun x w' => x = .returned (.tuple #[]) ∧
      EndPost w w' eb B fr n b g e D := by
  have HREST : Hid (∀ w1, ST w1 B eb e (topD D fr n) → EndRest w1 eb B fr n b g e D) := fun w1 h1 => end_rest eb B fr n b g e D w1 h1 hB hfr hb hg hMI hMR hMA hMV hW hfl hfree hN hR hbw hsl hnn hent
  unfold EndRest at HREST
  have c12 := h.hE.c12
  have H := hid h
  clear hb hg hMI hMR hMA hW hfl hfree hN hbw hsl hnn hent
  by_cases hex : ∃ k, k < D.R ∧ D.rid k = fr
  · obtain ⟨k, hk, hrid⟩ := hex
    have hlk := IX.look k42 Yba.underlying50 (zero76 w) h.ar hk
    rw [hMV k, if_pos rfl, hrid] at hlk
    unfold idv av at hlk
    have HID := hid hrid
    have HMV := hid hMV
    clear h hrid hMV
    go_enter Yba.func15, Yba.ntmps15
    go_upto_region 3 with fail
    have hmx : (if D.rt k < n then (n : Int) else (D.rt k : Int)) = ((max (D.rt k) n : Nat) : Int) := by split <;> omega
    rw [hmx]
    refine wp_gen (fun w3 hw3 => ?_)
    have hk3 : Kept [] w w3 := by rw [hw3]; exact (Kept.refl _ w).alloc _
    have h3 : ST w3 B eb e D := H.out.quiet hk3
    have hX3 : w3.rowIs w.heap.size 76 2 (fun i => if i = 0 then .int .i64 (D.rl k) else .int .u64 ((max (D.rt k) n : Nat) : Int)) := by
      rw [hw3]
      exact ⟨_, Deep.blk_alloc_new _ _, rfl, fun i hi => by rcases i with _ | _ | i <;> first | rfl | omega⟩
    clear hw3 hlk c12 hmx
    have d12 := h3.hE.c12
    have k0 : w3.cell? ⟨w.heap.size, 0, none⟩ = some (.int .i64 (D.rl k)) := hX3.cell (i := 0) (by omega)
    have k1 : w3.cell? ⟨w.heap.size, 1, none⟩ = some (.int .u64 ((max (D.rt k) n : Nat) : Int)) := hX3.cell (i := 1) (by omega)
    obtain ⟨w4, hup, hn4, hg4⟩ := IX.restore (w := w3.drew) k42 Yba.underlying50 (e := 76) h3.ar (by omega) hk (HMV.out k) (key := idv fr) (val := av (D.rl k) (max (D.rt k) n)) (by rw [HID.out])
    have hK4 : Kept [e.ar] w3 w4 := (Kept.refl [e.ar] w3).drew.grown hg4 (fun x hx => .inl (by simp at hx; simp [hx]))
    have h4 : ST w4 B eb e (topD D fr n) := h3.put_ar hK4 (hn4.congr (fun _ _ => rfl) (fun j hj _ => by
      by_cases e2 : j = k
      · subst e2; simp [HID.out]
      · rw [if_neg e2, if_neg fun e3 => e2 (ix_inj h3.ar hj hk (by rw [e3, HID.out]))]))
    have H22 := hid (HREST.out w4 h4)
    have HK3 : Hid (Kept (eb :: e.inc :: e.rm :: e.ac :: e.ar :: (e.bits.ownBlock.toList ++ e.slots.ownBlock.toList)) w w4) := Kept.trans (hk3.mono (by simp)) (hK4.mono (by simp))
    unfold idv av at hup
    clear h3 hX3 hn4 hg4 hK4 h4 hk3
    go_region
    go_wp2_with (first
      | (go_at_call 24; refine H24.out.mono ?_; rintro x w6 ⟨rfl, h6⟩; have H6 := hid h6; clear h6)
      | (go_at_call 23; refine H23.out.mono ?_; rintro x w5 ⟨⟨d5, rfl⟩, h5⟩; have H24 := hid h5; clear h5)
      | (go_at_call 22; refine H22.out.mono ?_; rintro x w4 ⟨⟨d4, rfl⟩, h4⟩; have H23 := hid h4; clear h4))
    go_end0
    obtain ⟨fl, fv, h7, h8, h9⟩ := H6.out
    exact ⟨rfl, fl, fv, h7, h8, HK3.out.trans h9⟩
  · have hno : ∀ k, k < D.R → D.rid k ≠ fr := fun k hk e1 => hex ⟨k, hk, e1⟩
    obtain ⟨kl, hkl⟩ := idv_key fr hfr
    have hlk := IX.look_none k42 Yba.underlying50 (zero76 w) h.ar (key := idv fr) hkl (fun k hk e1 => hno k hk (idv_inj e1))
    unfold idv at hlk
    have HNO := hid hno
    clear h hno hkl hex hMV
    go_enter Yba.func15, Yba.ntmps15
    go_upto_region 4 with fail
    refine wp_gen (fun w3 hw3 => ?_)
    have hk3 : Kept [] w w3 := by rw [hw3]; exact (Kept.refl _ w).alloc _
    have h3 : ST w3 B eb e (topD D fr n) := (H.out.quiet hk3).congr (fun _ _ => rfl) (fun _ _ => rfl) (fun _ _ => rfl) rfl rfl (fun _ _ => rfl) (fun k hk _ => ⟨rfl, (if_neg (HNO.out k hk)).symm⟩) (fun _ _ => rfl)
    have H22 := hid (HREST.out w3 h3)
    have HK3 : Hid (Kept (eb :: e.inc :: e.rm :: e.ac :: e.ar :: (e.bits.ownBlock.toList ++ e.slots.ownBlock.toList)) w w3) := hk3.mono (by simp)
    clear hw3 hk3 h3 c12 hlk
    go_wp2_with (first
      | (go_at_call 24; refine H24.out.mono ?_; rintro x w6 ⟨rfl, h6⟩; have H6 := hid h6; clear h6)
      | (go_at_call 23; refine H23.out.mono ?_; rintro x w5 ⟨⟨d5, rfl⟩, h5⟩; have H24 := hid h5; clear h5)
      | (go_at_call 22; refine H22.out.mono ?_; rintro x w4 ⟨⟨d4, rfl⟩, h4⟩; have H23 := hid h4; clear h4))
    go_end0
    obtain ⟨fl, fv, h7, h8, h9⟩ := H6.out
    exact ⟨rfl, fl, fv, h7, h8, HK3.out.trans h9⟩
end Go.Proofs.Ybulkgbai
