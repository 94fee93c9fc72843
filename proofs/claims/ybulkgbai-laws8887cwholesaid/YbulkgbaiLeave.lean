import Derived.Test.YbulkgbaiUnl
namespace Go.Proofs.Ybulkgbai
open Go.RowKit Go.Zz Go.Maps

set_option maxRecDepth 100000 in
/-- (*Engine).leave, no link from there has reached the process -/
theorem leave_none (eb B fr : Nat) (e : EV) (D : Dat) (w : World) (h : ST w B eb e D) (hfr : fr < 4294967296) (hno : ∀ k, k < D.R → D.rid k ≠ fr) :
    Calls Yba.prog 24 #[.pointer (some ⟨eb, 0, none⟩), .int .u32 (fr : Int)] w fun x w' => x = .returned (.tuple #[]) ∧ Kept [] w w' := by
  have c12 := h.hE.c12
  obtain ⟨kl, hkl⟩ := idv_key fr hfr
  have hlk := IX.look_none k42 Yba.underlying50 (zero76 w) h.ar (key := idv fr) hkl (fun k hk e1 => hno k hk (idv_inj e1))
  unfold idv at hlk
  clear h hno hkl
  go_enter Yba.func24, Yba.ntmps24
  go_wp2
  exact bodyPost_ret (v := .tuple #[]) (by simp [results, Yba.results24, go_sem]) rfl ⟨rfl, (Kept.refl _ w).alloc _⟩

set_option maxRecDepth 100000 in
/-- (*Engine).leave, a link is left -/
theorem leave_more (eb B fr k : Nat) (l : Int) (e : EV) (D : Dat) (w : World) (h : ST w B eb e D) (hR : D.R ≤ 4096) (hk : k < D.R) (hrid : D.rid k = fr) (hMV : D.MV k = true) (hl : wrap64 (D.rl k - 1) = l) (hl0 : 0 < l) :
    Calls Yba.prog 24 #[.pointer (some ⟨eb, 0, none⟩), .int .u32 (fr : Int)] w fun x w' => x = .returned (.tuple #[]) ∧
      ST w' B eb e { D with rl := fun j => if j = k then l else D.rl j } ∧ Kept [e.ar] w w' := by
  have c12 := h.hE.c12
  have hlk := IX.look k42 Yba.underlying50 (zero76 w) h.ar hk
  rw [hMV, if_pos rfl, hrid] at hlk
  unfold idv av at hlk
  have e1 : decide (0 < l) = true := by simp [hl0]
  have H := hid h
  have HID := hid hrid
  have HMV := hid hMV
  clear h hrid hMV
  go_enter Yba.func24, Yba.ntmps24
  go_upto_region 4 with fail
  refine wp_gen (fun w3 hw3 => ?_)
  have hk3 : Kept [] w w3 := by rw [hw3]; exact (Kept.refl _ w).alloc _
  have h3 : ST w3 B eb e D := H.out.quiet hk3
  have hX3 : w3.rowIs w.heap.size 76 2 (fun i => if i = 0 then .int .i64 l else .int .u64 (D.rt k : Int)) := by
    rw [hw3]
    exact ⟨_, Deep.blk_alloc_new _ _, rfl, fun i hi => by rcases i with _ | _ | i <;> first | rfl | omega⟩
  clear hw3 hlk c12
  have d12 := h3.hE.c12
  have k0 : w3.cell? ⟨w.heap.size, 0, none⟩ = some (.int .i64 l) := hX3.cell (i := 0) (by omega)
  have k1 : w3.cell? ⟨w.heap.size, 1, none⟩ = some (.int .u64 (D.rt k : Int)) := hX3.cell (i := 1) (by omega)
  obtain ⟨w4, hup, hn4, hg4⟩ := IX.restore (w := w3.drew) k42 Yba.underlying50 (e := 76) h3.ar (by omega) hk HMV.out (key := idv fr) (val := av l (D.rt k)) (by rw [HID.out])
  have hK4 : Kept [e.ar] w3 w4 := (Kept.refl [e.ar] w3).drew.grown hg4 (fun x hx => .inl (by simp at hx; simp [hx]))
  have h4 : ST w4 B eb e { D with rl := fun j => if j = k then l else D.rl j } := h3.put_ar hK4 (hn4.congr (fun _ _ => rfl) (fun j _ _ => by
    by_cases e2 : j = k
    · subst e2; simp
    · simp [e2]))
  have hK5 : Kept [e.ar] w w4 := Kept.trans (hk3.mono (by simp)) hK4
  unfold idv av at hup
  have H4 := hid h4
  have HK5 := hid hK5
  clear h3 hX3 hn4 hg4 hK4 h4 hK5 hk3
  go_region
  go_wp2
  exact bodyPost_ret (v := .tuple #[]) (by simp [results, Yba.results24, go_sem]) rfl ⟨rfl, H4.out, HK5.out⟩

set_option maxRecDepth 100000 in
/-- (*Engine).leave, no link is left -/
theorem leave_gone (eb B fr k : Nat) (l : Int) (e : EV) (D : Dat) (w : World) (h : ST w B eb e D) (hk : k < D.R) (hrid : D.rid k = fr) (hMV : D.MV k = true) (hl : wrap64 (D.rl k - 1) = l) (hl0 : ¬ 0 < l) (hent : IntKind.i64.wrap e.ent = e.ent) :
    Calls Yba.prog 24 #[.pointer (some ⟨eb, 0, none⟩), .int .u32 (fr : Int)] w fun x w' => x = .returned (.tuple #[]) ∧
      ST w' B eb { e with ent := IntKind.i64.wrap (e.ent - (tot D.m (fun j => D.MA j && hit D.f D.nn fr 18446744073709551615 j) (fun j => D.la j + D.lb j) : Nat)) } { D with MV := fun j => D.MV j && !decide (j = k), MA := fun j => D.MA j && !hit D.f D.nn fr 18446744073709551615 j } ∧ Kept [eb, e.ac, e.ar] w w' := by
  have c12 := h.hE.c12
  have hlk := IX.look k42 Yba.underlying50 (zero76 w) h.ar hk
  rw [hMV, if_pos rfl, hrid] at hlk
  unfold idv av at hlk
  have e1 : decide (0 < l) = false := by simp; omega
  have H := hid h
  have HID := hid hrid
  have HENT := hid hent
  clear h hrid hMV hl0 hent
  go_enter Yba.func24, Yba.ntmps24
  go_upto_region 5 with fail
  refine wp_gen (fun w3 hw3 => ?_)
  have hk3 : Kept [] w w3 := by rw [hw3]; exact (Kept.refl _ w).alloc _
  have h3 : ST w3 B eb e D := H.out.quiet hk3
  clear hw3 hlk c12
  have d12 := h3.hE.c12
  obtain ⟨w4, hdel, hn4, hg4⟩ := IX.drop k42 Yba.underlying50 (e := 76) h3.ar hk (key := idv fr) (by rw [HID.out]) 0
  have hK4 : Kept [e.ar] w3 w4 := Kept.of_grown hg4
  have h4 : ST w4 B eb e { D with MV := fun j => D.MV j && !decide (j = k) } := h3.put_ar hK4 hn4
  have hK5 : Kept [eb, e.ac, e.ar] w w4 := Kept.trans (hk3.mono (by simp)) (hK4.mono (by simp))
  have hda := dropAcc_any eb D.m fr 18446744073709551615 e w4 D.f D.nn D.pa D.la D.lb D.MA h4.hE HENT.out h4.has h4.ac
  rw [show ((18446744073709551615 : Nat) : Int) = 18446744073709551615 from rfl] at hda
  unfold idv at hdel
  have HDA := hid hda
  have H4 := hid h4
  have HK5 := hid hK5
  clear h3 hn4 hg4 hK4 h4 hK5 hk3 hda
  go_wp2_with (go_at_call 23; refine HDA.out.mono ?_; rintro x w5 ⟨⟨d, rfl⟩, hE5, hM5, hK6⟩)
  go_end0
  exact ⟨rfl, H4.out.put_ac hK6 hE5 hM5, HK5.out.trans (hK6.mono (by simp))⟩
end Go.Proofs.Ybulkgbai
