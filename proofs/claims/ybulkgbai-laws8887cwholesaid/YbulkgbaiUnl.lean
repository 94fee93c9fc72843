import Derived.Test.YbulkgbaiSt
namespace Go.Proofs.Ybulkgbai
open Go.RowKit Go.Zz Go.Maps

set_option maxRecDepth 100000 in
/-- (*Engine).unlinkFrom, no usable link from there -/
theorem unlink_none (eb B fr : Nat) (e : EV) (D : Dat) (w : World) (h : ST w B eb e D) (hfr : fr < 4294967296) (hno : ∀ i, i < D.I → D.ids i ≠ fr) :
    Calls Yba.prog 22 #[.pointer (some ⟨eb, 0, none⟩), .int .u32 (fr : Int)] w fun x w' => (∃ d, x = .returned (.bool d)) ∧ Kept [] w w' := by
  have c4 := h.hE.c4
  obtain ⟨kl, hkl⟩ := idv_key fr hfr
  have hlk := IX.look_none k42 Yba.underlying44 (zero3 w) h.inc (key := idv fr) hkl (fun i hi e1 => hno i hi (idv_inj e1))
  unfold idv at hlk
  clear h hno hkl
  go_enter Yba.func22, Yba.ntmps22
  go_wp2
  go_ret
  exact ⟨⟨_, rfl⟩, Kept.refl _ _⟩

set_option maxRecDepth 100000 in
/-- (*Engine).unlinkFrom at a usable link -/
theorem unlink_some (eb B fr i b : Nat) (e : EV) (D : Dat) (w : World) (h : ST w B eb e D) (hB : B ≤ eb) (hi : i < D.I) (hid0 : D.ids i = fr) (hMI : D.MI i = true) (hi6 : i < 6) (hb : 2 ^ i = b) (hMR : ∀ r, D.MR r = true) (hW : e.words = 1) (hfree : e.free = .slice none 0 0) (hN : D.N ≤ 4096) (hbw : ∀ r, D.bw r < 64) (hsl : D.sl < 64) :
    Calls Yba.prog 22 #[.pointer (some ⟨eb, 0, none⟩), .int .u32 (fr : Int)] w fun x w' => (∃ d, x = .returned (.bool d)) ∧ ∃ fl fv,
      ST w' B eb { e with free := fv, ent := IntKind.i64.wrap (e.ent - (cnt D.N (fun r => hadF (D.bw r) b) : Nat)) } { D with MI := fun j => D.MI j && !decide (j = i), bw := fun r => dropF (D.bw r) b, MR := fun r => !(freed (D.bw r) b), fl := fl, sl := D.sl &&& (18446744073709551615 - b) } ∧
      fl.Perm ((List.range D.N).filter (fun r => freed (D.bw r) b)) ∧ Kept (eb :: e.inc :: e.rm :: (e.bits.ownBlock.toList ++ e.slots.ownBlock.toList)) w w' := by
  have c4 := h.hE.c4
  have hlk := IX.look k42 Yba.underlying44 (zero3 w) h.inc hi
  rw [hMI, if_pos rfl, hid0] at hlk
  obtain ⟨w1, hdel, hn1, hgr1⟩ := IX.drop k42 Yba.underlying44 (e := 3) h.inc hi (key := idv fr) (by rw [hid0]) 0
  have hk1 : Kept [e.inc] w w1 := Kept.of_grown hgr1
  have h1 := h.put_inc hk1 hn1
  unfold idv at hdel hlk
  unfold iv at hlk
  have g17 := h1.hE.c17
  have hMR1 : IX w1.drew Yba.prog 59 e.rm D.N (fun r => kv r 1) iv (fun _ => true) := IX.congr (w := w1.drew) h1.rm (fun r _ => hMR r) (fun _ _ _ => rfl)
  have hdl := dropLink_any eb B D.N i b D.sl e w1.drew D.bw hi6 hb h1.hE hB hW hfree hN hbw hsl h1.bits h1.slots h1.dis hMR1
  have HDL := hid hdl
  have H1 := hid h1
  have HK1 := hid hk1
  clear h hid0 hMI hb hMR hW hfree hbw hn1 hgr1 hMR1 hdl h1 hk1
  go_enter Yba.func22, Yba.ntmps22
  go_upto_region 4 with fail
  go_region_with (go_at_call 28; refine HDL.out.mono ?_; rintro x w2 ⟨rfl, fl, fv, it, c, hd⟩; have d17 : w2.cell? ⟨eb, 17, none⟩ = some (.int .i64 e.ent) := hd.hE.c17; have f17 := hd.hE.fz 17; have HDD := hid hd; clear hd)
  all_goals
    go_wp2
    go_ret
    have h2 : ST w2 B eb { e with free := fv } { D with MI := fun j => D.MI j && !decide (j = i), bw := fun r => dropF (D.bw r) b, MR := fun r => !(freed (D.bw r) b), fl := fl, sl := D.sl &&& (18446744073709551615 - b) } := ST.put_rm (w := w1.drew) (H1.out.quiet (Kept.refl _ w1).drew) HDD.out
    refine ⟨⟨_, rfl⟩, fl, fv, h2.put_ent _, HDD.out.perm.trans (by simp), ?_⟩
    refine Kept.setCell ?_ (.inl (by simp)) _
    refine Kept.step (w' := w1.drew) (HK1.out.drew.mono (by simp)) HDD.out.hK fun z hz => .inl ?_
    simp only [List.mem_cons, List.mem_append] at hz ⊢
    rcases hz with hz | hz | hz | hz <;> simp [hz]
end Go.Proofs.Ybulkgbai
