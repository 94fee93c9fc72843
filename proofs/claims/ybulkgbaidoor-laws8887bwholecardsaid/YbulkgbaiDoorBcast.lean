import Derived.Test.YbulkgbaiDoorFirst
namespace Go.Proofs.YbulkgbaiDoor
open Go.RowKit Go.Zz Go.Maps

set_option maxRecDepth 100000 in
/-- (*Engine).Broadcast -/
theorem bcast_any (eb ob B o k j no n self life L c : Nat) (at0 : Option Addr) (e : EV) (D : Nat → Nat) (logv : Value) (lf : Nat → Value) (w : World) (h : Cs w B eb e o k j) (ho : o = ko self life) (hs : self < 4294967296) (hl : life < 4294967296) (hk : k ≤ 300) (hj : j ≤ 60) (hBw : B ≤ w.heap.size)
    (hself : e.self = self) (hlife : e.life = life) (hseq : e.seq = j)
    (hout : e.outv = .iface 27 (.pointer (some ⟨ob, 0, none⟩))) (hG : Vec w B 61 2 e.outg no (olF D)) (hop : w.heap[e.op]? = some (.map #[] 0)) (hac : w.heap[e.ac]? = some (.map #[] 0)) (hopr : e.op ≠ e.rm) (hacr : e.ac ≠ e.rm)
    (hO : w.rowIs ob 30 1 (fun _ => logv)) (hL : Vec w B 39 6 logv n lf) (hn : n ≤ 2000) (hno : no ≤ 300) (hent : e.ent ≤ 100000) :
    Calls Ybad.prog 5 #[.pointer (some ⟨eb, 0, none⟩), .slice at0 L c] w fun x w' => x = .returned (mv self life (j + 1) (.slice at0 L c)) ∧
      ∃ e2 lv', Cs w' B eb e2 o k (j + 1) ∧ e2 = { e with bits := e2.bits, free := e2.free, ent := e.ent + k, dl := true, seq := j + 1 } ∧ w'.rowIs ob 30 1 (fun _ => lv') ∧
        Vec w' B 39 6 lv' (n + no + 1) (logA (n + no) (fS n lf D self life (j + 1) (.slice at0 L c) no) (evF 1 0 self life (j + 1) (.slice at0 L c))) ∧ Kept (own eb e ++ ob :: logv.ownBlock.toList) w w' := by
  have c15 : w.cell? ⟨eb, 15, none⟩ = some (.int .u64 (j : Int)) := by
    have : w.cell? ⟨eb, 15, none⟩ = some (.int .u64 (e.seq : Int)) := World.rowIs.cell h.hE (by omega)
    rw [this, hseq]
  have f15 := E.fz h.hE 15
  have hlt : eb < w.heap.size := World.rowIs.lt h.hE
  have H := hid h
  have HG := hid hG
  have HOP := hid hop
  have HAC := hid hac
  have HO := hid hO
  have HL := hid hL
  have HSF := hid hself
  have HLF := hid hlife
  have HHO := hid ho
  have HOUT := hid hout
  clear h hG hop hac hO hL hself hlife hseq ho hout
  go_enter Ybad.func5, Ybad.ntmps5
  go_upto_region 2 with fail
  refine wp_gen (fun w0 hw0 => ?_)
  have hk0 : Kept [eb] w w0 := by rw [hw0]; exact ((Kept.refl _ w).setCell (a := ⟨eb, 15, none⟩) (.inl (by simp)) _).alloc _
  have h0 : Cs w0 B eb { e with seq := j + 1 } o k j := by
    rw [hw0]
    exact (Cs.put H.out 15 _ (E.seq H.out.hE (j + 1)) rfl rfl rfl rfl rfl).kept ((Kept.refl [] _).alloc _) (by simp)
  have hr0 : w0.rowIs w.heap.size 35 4 (fun i => if i = 0 then .int .u32 0 else if i = 1 then .int .u32 0 else if i = 2 then .int .u64 0 else .slice none 0 0) := by
    rw [hw0]
    have hsz : (w.setCell ⟨eb, 15, none⟩ (.int .u64 ((j : Int) + 1))).heap.size = w.heap.size := Deep.nblk_setCell _ _ _
    rw [← hsz]
    exact ⟨_, Deep.blk_alloc_new _ _, rfl, fun i hi => by rcases i with _ | _ | _ | _ | i <;> first | rfl | omega⟩
  clear hw0 c15 f15
  obtain ⟨s, hs1⟩ : ∃ s, s = j + 1 := ⟨_, rfl⟩
  have d0 : w0.cell? ⟨eb, 0, none⟩ = some (.int .u32 (self : Int)) := by
    have : w0.cell? ⟨eb, 0, none⟩ = some (.int .u32 e.self) := World.rowIs.cell h0.hE (by omega)
    rw [this, HSF.out]
  have d1 : w0.cell? ⟨eb, 1, none⟩ = some (.int .u32 (life : Int)) := by
    have : w0.cell? ⟨eb, 1, none⟩ = some (.int .u32 e.life) := World.rowIs.cell h0.hE (by omega)
    rw [this, HLF.out]
  have d15 : w0.cell? ⟨eb, 15, none⟩ = some (.int .u64 (s : Int)) := by
    rw [hs1]
    exact World.rowIs.cell h0.hE (by omega)
  have hlt0 : eb < w0.heap.size := World.rowIs.lt h0.hE
  have HS := hid hs1
  have H0 := hid h0
  have HR0 := hid hr0
  have HK0 := hid hk0
  clear hs1 h0 hr0 hk0
  go_big_region
  go_upto_region 3 with fail
  refine wp_gen (fun w1 hw1 => ?_)
  have hk1 : Kept [eb] w w1 := by rw [hw1]; exact (HK0.out.alloc _).drew
  have h1 : Cs w1 B eb { e with seq := j + 1 } o k j := by
    rw [hw1]
    exact H0.out.kept (((Kept.refl [] w0).alloc _).drew) (by simp)
  have hm1 : w1.rowIs w0.heap.size 35 4 (fun i => evF 0 0 self life s (.slice at0 L c) (i + 2)) := by
    rw [hw1]
    exact ⟨_, Deep.blk_alloc_new _ _, rfl, fun i hi => by rcases i with _ | _ | _ | _ | i <;> first | rfl | omega⟩
  have hr1 : w1.rowIs w.heap.size 35 4 (fun i => if i = 0 then .int .u32 0 else if i = 1 then .int .u32 0 else if i = 2 then .int .u64 0 else .slice none 0 0) := by
    rw [hw1]
    exact HR0.out.alloc _
  clear hw1 d0 d1 d15
  have hne : ∀ b, b ∉ own eb e → b ∉ [eb] := fun b hb hm => hb (by simp at hm; simp [own, hm])
  have hO1 : w1.rowIs ob 30 1 (fun _ => logv) := hk1.row HO.out (hne _ (H.out.not_own HO.out (by decide) (by decide) (by decide)).1)
  have hL1 : Vec w1 B 39 6 logv n lf := hk1.vec HL.out (fun b hb => hne _ (H.out.not_own_vec HL.out (by decide) (by decide) (by decide) b hb).1)
  have hG1 : Vec w1 B 61 2 e.outg no (olF D) := hk1.vec HG.out (fun b hb => hne _ (H.out.not_own_vec HG.out (by decide) (by decide) (by decide) b hb).1)
  have hop1 : w1.heap[e.op]? = some (.map #[] 0) := by
    rw [hk1.block _ (Array.getElem?_eq_some_iff.1 HOP.out).1 (hne _ (map_not_own H.out HOP.out hopr))]
    exact HOP.out
  have hac1 : w1.heap[e.ac]? = some (.map #[] 0) := by
    rw [hk1.block _ (Array.getElem?_eq_some_iff.1 HAC.out).1 (hne _ (map_not_own H.out HAC.out hacr))]
    exact HAC.out
  have hfirst := first_any eb ob B o k j no n self life L c at0 { e with seq := j + 1 } D logv lf w1 h1 HHO.out hs hl hk hj (by have := hk1.size; omega) HOUT.out hG1 hop1 hac1 hopr hacr hO1 hL1 hn hno hent
  unfold mv at hfirst
  rw [← HS.out] at hfirst
  have hSn : ∀ {b m : Nat} {f : Nat → Value}, w1.rowIs b 35 m f → b ∉ own eb { e with seq := s } ++ ob :: logv.ownBlock.toList := by
    intro b m f hr hm
    rcases List.mem_append.1 hm with h | h
    · exact (h1.not_own hr (by decide) (by decide) (by decide)).1 h
    · rcases List.mem_cons.1 h with h | h
      · obtain ⟨c1, hc1, _⟩ := hr
        obtain ⟨c2, hc2, _⟩ := hO1
        rw [h, hc2] at hc1
        simp at hc1
      · exact vec_ne hL1 hr (by decide) (by simpa using h)
  have m0 : w1.cell? ⟨w0.heap.size, 0, none⟩ = some (.int .u32 (self : Int)) := hm1.cell (i := 0) (by omega)
  have m1 : w1.cell? ⟨w0.heap.size, 1, none⟩ = some (.int .u32 (life : Int)) := hm1.cell (i := 1) (by omega)
  have m2 : w1.cell? ⟨w0.heap.size, 2, none⟩ = some (.int .u64 (s : Int)) := hm1.cell (i := 2) (by omega)
  have m3 : w1.cell? ⟨w0.heap.size, 3, none⟩ = some (.slice at0 L c) := hm1.cell (i := 3) (by omega)
  have HF := hid hfirst
  have HSN1 := hid (hSn hm1)
  have HSN2 := hid (hSn hr1)
  have HM1 := hid hm1
  have HR1 := hid hr1
  have HK1 := hid hk1
  clear hfirst hSn hm1 hr1 hk1 h1 hO1 hL1 hG1 hop1 hac1 hne
  go_upto_region 4 with (go_at_call 11; refine HF.out.mono ?_; rintro x w2 ⟨rfl, hpost⟩; have HP := hid hpost; clear hpost)
  obtain ⟨e2, lv2, hc2, he2, hO2, hL2, hk2⟩ := HP.out
  have hm2 := hk2.row HM1.out HSN1.out
  have hr2 := hk2.row HR1.out HSN2.out
  clear m0 m1 m2 m3
  have m0 : w2.cell? ⟨w0.heap.size, 0, none⟩ = some (.int .u32 (self : Int)) := hm2.cell (i := 0) (by omega)
  have m1 : w2.cell? ⟨w0.heap.size, 1, none⟩ = some (.int .u32 (life : Int)) := hm2.cell (i := 1) (by omega)
  have m2 : w2.cell? ⟨w0.heap.size, 2, none⟩ = some (.int .u64 (s : Int)) := hm2.cell (i := 2) (by omega)
  have m3 : w2.cell? ⟨w0.heap.size, 3, none⟩ = some (.slice at0 L c) := hm2.cell (i := 3) (by omega)
  have r0 : w2.cell? ⟨w.heap.size, 0, none⟩ = some (.int .u32 0) := hr2.cell (i := 0) (by omega)
  have r1 : w2.cell? ⟨w.heap.size, 1, none⟩ = some (.int .u32 0) := hr2.cell (i := 1) (by omega)
  have r2 : w2.cell? ⟨w.heap.size, 2, none⟩ = some (.int .u64 0) := hr2.cell (i := 2) (by omega)
  have r3 : w2.cell? ⟨w.heap.size, 3, none⟩ = some (.slice none 0 0) := hr2.cell (i := 3) (by omega)
  have q0 := hr2.frozen 0
  have q1 := hr2.frozen 1
  have q2 := hr2.frozen 2
  have q3 := hr2.frozen 3
  have hn3 := hc2.not_own hr2 (by decide) (by decide) (by decide)
  have hn4 : lv2.ownBlock ≠ some w.heap.size := vec_ne hL2 hr2 (by decide)
  have hn5 : ob ≠ w.heap.size := by have := HO.out.lt; omega
  have HN3 := hid hn3
  have HN4 := hid hn4
  have HC2 := hid hc2
  have HE2 := hid he2
  have HO2 := hid hO2
  have HL2 := hid hL2
  have HK2 := hid hk2
  clear hc2 he2 hO2 hL2 hk2 hm2 hr2 HP hn3 hn4
  go_wp2
  have hk3 : Kept [w.heap.size] w2 ((((w2.setCell ⟨w.heap.size, 0, none⟩ (.int .u32 (self : Int))).setCell ⟨w.heap.size, 1, none⟩ (.int .u32 (life : Int))).setCell ⟨w.heap.size, 2, none⟩ (.int .u64 (s : Int))).setCell ⟨w.heap.size, 3, none⟩ (.slice at0 L c)) :=
    ((((Kept.refl _ w2).setCell (.inl (by simp)) _).setCell (.inl (by simp)) _).setCell (.inl (by simp)) _).setCell (.inl (by simp)) _
  rw [← HS.out]
  refine bodyPost_ret (v := mv self life s (.slice at0 L c)) (by simp [results, Ybad.results5, go_sem, mv, r0, r1, r2, r3]) rfl ⟨rfl, e2, lv2, HC2.out.kept hk3 (fun b hb => by (obtain rfl : b = w.heap.size := by simpa using hb); exact HN3.out), HE2.out, hk3.row HO2.out (by simpa using hn5), hk3.vec HL2.out (fun b hb hm => HN4.out (by (obtain rfl : b = w.heap.size := by simpa using hm); exact hb)), ?_⟩
  refine ((HK1.out.mono (fun b hb => ?_)).trans HK2.out).step hk3 (fun b hb => .inr (by simp at hb; omega))
  simp only [List.mem_singleton] at hb
  rw [hb]
  exact List.mem_append_left _ (by simp [own])
end Go.Proofs.YbulkgbaiDoor
