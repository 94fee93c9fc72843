import Derived.Test.YbulkgbaiDoorRecord
import Derived.Deep.RegionWith
namespace Go.Proofs.YbulkgbaiDoor
open Go.RowKit Go.Zz Go.Maps

/-- a store into another field of the engine -/
theorem Cs.put {w : World} {B eb o k j : Nat} {e e2 : EV} (h : Cs w B eb e o k j) (i : Nat) (v : Value) (hE : E (w.setCell ⟨eb, i, none⟩ v) eb e2) (h1 : e2.words = e.words) (h2 : e2.slots = e.slots) (h3 : e2.bits = e.bits) (h4 : e2.free = e.free) (h5 : e2.rm = e.rm) :
    Cs (w.setCell ⟨eb, i, none⟩ v) B eb e2 o k j := by
  have hrm : e.rm ≠ eb := rm_ne h.rm h.hE
  refine ⟨hE, h.hB, by rw [h1]; exact h.words, by rw [h2]; exact vec_set (a := ⟨eb, i, none⟩) h.slots (show _ ≠ some eb from vec_ne h.slots h.hE (by decide)) _, by rw [h2, h3]; exact h.dis, by rw [h5]; exact h.rm.of_block (Deep.blk_setCell_other _ _ _ _ hrm), by rw [h5]; exact h.hrm, ?_⟩
  rw [h3, h4]
  rcases h.rest with ⟨a, ⟨f, hf⟩, c⟩ | ⟨a, b, ⟨bb, cap, c, d⟩, fb, fc, c2, d2⟩
  · exact .inl ⟨a, ⟨f, vec_set (a := ⟨eb, i, none⟩) hf (show _ ≠ some eb from vec_ne hf h.hE (by decide)) _⟩, c⟩
  · exact .inr ⟨a, b, ⟨bb, cap, c, vec_set (a := ⟨eb, i, none⟩) d (show _ ≠ some eb from vec_ne d h.hE (by decide)) _⟩, fb, fc, c2, vec_set (a := ⟨eb, i, none⟩) d2 (show _ ≠ some eb from vec_ne d2 h.hE (by decide)) _⟩

/-- a change elsewhere -/
theorem Cs.kept {w w' : World} {B eb o k j : Nat} {e : EV} {S : List Nat} (h : Cs w B eb e o k j) (hk : Kept S w w') (hS : ∀ b ∈ S, b ∉ own eb e ∧ e.slots.ownBlock ≠ some b) : Cs w' B eb e o k j := by
  have hn : ∀ b, b ∈ own eb e → b ∉ S := fun b hb hs => (hS b hs).1 hb
  have he : eb ∉ S := hn eb (by simp [own])
  have hr : e.rm ∉ S := hn e.rm (by simp [own])
  have hb : ∀ b, e.bits.ownBlock = some b → b ∉ S := fun b hb => hn b (by simp [own, hb])
  have hf : ∀ b, e.free.ownBlock = some b → b ∉ S := fun b hb => hn b (by simp [own, hb])
  refine ⟨hk.row h.hE he, h.hB, h.words, hk.vec h.slots (fun b hb hs => (hS b hs).2 hb), h.dis, h.rm.of_block (hk.block _ h.rm.lt hr), h.hrm, ?_⟩
  rcases h.rest with ⟨a, ⟨f, hf'⟩, c⟩ | ⟨a, b, ⟨bb, cap, c, d⟩, fb, fc, c2, d2⟩
  · exact .inl ⟨a, ⟨f, hk.vec hf' hb⟩, c⟩
  · exact .inr ⟨a, b, ⟨bb, cap, c, hk.vec d hb⟩, fb, fc, c2, hk.vec d2 hf⟩

/-- rows of other types are none of the copies' blocks -/
theorem Cs.not_own {w : World} {B eb o k j b m : Nat} {e : EV} {t : TypeId} {f : Nat → Value} (h : Cs w B eb e o k j) (hr : w.rowIs b t m f) (h1 : t ≠ 59) (h2 : t ≠ 33) (h3 : t ≠ 3) : b ∉ own eb e ∧ e.slots.ownBlock ≠ some b := by
  refine ⟨?_, fun hb => vec_ne h.slots hr h2 hb⟩
  intro hm
  unfold own at hm
  simp only [List.mem_cons, List.mem_append] at hm
  rcases hm with hm | hm | hm | hm
  · obtain ⟨c, hc, _⟩ := hr
    obtain ⟨c', hc', _⟩ := h.hE
    rw [hm, hc'] at hc
    simp only [Option.some.injEq, Obj.cells.injEq] at hc
    exact h1 hc.2.1.symm
  · exact rm_ne h.rm hr hm.symm
  · rcases h.rest with ⟨_, ⟨f, hf⟩, _⟩ | ⟨_, _, ⟨_, _, _, hf⟩, _⟩
    · exact vec_ne hf hr h2 (by simpa using hm)
    · exact vec_ne hf hr h2 (by simpa using hm)
  · rcases h.rest with ⟨_, _, hf⟩ | ⟨_, _, _, _, _, _, hf⟩
    · rw [hf] at hm; simp [Value.ownBlock] at hm
    · exact vec_ne hf hr h3 (by simpa using hm)

theorem Cs.not_own_vec {w : World} {B B' eb o k j n size : Nat} {e : EV} {t : TypeId} {v : Value} {f : Nat → Value} (h : Cs w B eb e o k j) (hv : Vec w B' t size v n f) (h1 : t ≠ 59) (h2 : t ≠ 33) (h3 : t ≠ 3) (b : Nat) (hb : v.ownBlock = some b) : b ∉ own eb e ∧ e.slots.ownBlock ≠ some b := by
  rcases hv.2 with ⟨h0, _⟩ | ⟨c, cap, cur, h0, _, h3', _⟩
  · rw [h0] at hb; simp [Value.ownBlock] at hb
  · rw [h0] at hb
    simp only [Value.ownBlock, Option.some.injEq] at hb
    subst hb
    exact h.not_own (b := c) (m := cur.size) (f := fun i => cur.getD i (.bool false)) ⟨cur, h3', rfl, fun i hi => by simp [Array.getD, hi]⟩ h1 h2 h3

theorem map_not_own {w : World} {B eb o k j b : Nat} {e : EV} {es : Array MapEntry} {cl : Nat} (h : Cs w B eb e o k j) (hm : w.heap[b]? = some (.map es cl)) (hr : b ≠ e.rm) : b ∉ own eb e := by
  intro hb
  unfold own at hb
  simp only [List.mem_cons, List.mem_append] at hb
  have hv : ∀ {t : TypeId} {n : Nat} {v : Value} {f : Nat → Value}, Vec w B t 1 v n f → v.ownBlock ≠ some b := by
    intro t n v f hv hb2
    rcases hv.2 with ⟨h0, _⟩ | ⟨c, cap, cur, h0, _, h3', _⟩
    · rw [h0] at hb2; simp [Value.ownBlock] at hb2
    · rw [h0] at hb2
      simp only [Value.ownBlock, Option.some.injEq] at hb2
      rw [hb2, hm] at h3'
      cases h3'
  rcases hb with hb | hb | hb | hb
  · obtain ⟨c, hc, _⟩ := h.hE
    rw [← hb, hm] at hc
    cases hc
  · exact hr hb
  · rcases h.rest with ⟨_, ⟨f, hf⟩, _⟩ | ⟨_, _, ⟨_, _, _, hf⟩, _⟩
    · exact hv hf (by simpa using hb)
    · exact hv hf (by simpa using hb)
  · rcases h.rest with ⟨_, _, hf⟩ | ⟨_, _, _, _, _, _, hf⟩
    · rw [hf] at hb; simp [Value.ownBlock] at hb
    · exact hv hf (by simpa using hb)

theorem mSend (w : World) (a : Option Addr) : (method 221 27 (.pointer a) "Send").run Ybad.prog w = .ok (42, .pointer a) w := by kernel_rfl
theorem mDeliver (w : World) (a : Option Addr) : (method 221 27 (.pointer a) "Deliver").run Ybad.prog w = .ok (41, .pointer a) w := by kernel_rfl

/-- the log behind t sends -/
def fS (n : Nat) (lf : Nat → Value) (D : Nat → Nat) (self life s : Nat) (p : Value) : Nat → (Nat → Value)
  | 0 => lf
  | t + 1 => logA (n + t) (fS n lf D self life s p t) (evF 0 (D t) self life s p)

/-- the usable outgoing links' cells -/
def olF (D : Nat → Nat) : Nat → Value := fun q => if q % 2 = 0 then .int .u32 (D (q / 2) : Int) else .int .u64 0

set_option maxRecDepth 100000 in
set_option maxHeartbeats 1000000 in
theorem first_any (eb ob B o k j no n self life L c : Nat) (at0 : Option Addr) (e : EV) (D : Nat → Nat) (logv : Value) (lf : Nat → Value) (w : World) (h : Cs w B eb e o k j) (ho : o = ko self life) (hs : self < 4294967296) (hl : life < 4294967296) (hk : k ≤ 300) (hj : j ≤ 60) (hBw : B ≤ w.heap.size)
    (hout : e.outv = .iface 27 (.pointer (some ⟨ob, 0, none⟩))) (hG : Vec w B 61 2 e.outg no (olF D)) (hop : w.heap[e.op]? = some (.map #[] 0)) (hac : w.heap[e.ac]? = some (.map #[] 0)) (hopr : e.op ≠ e.rm) (hacr : e.ac ≠ e.rm)
    (hO : w.rowIs ob 30 1 (fun _ => logv)) (hL : Vec w B 39 6 logv n lf) (hn : n ≤ 2000) (hno : no ≤ 300) (hent : e.ent ≤ 100000) :
    Calls Ybad.prog 11 #[.pointer (some ⟨eb, 0, none⟩), mv self life (j + 1) (.slice at0 L c), .int .i64 (-1)] w fun x w' => x = .returned (.tuple #[]) ∧
      ∃ e2 lv', Cs w' B eb e2 o k (j + 1) ∧ e2 = { e with bits := e2.bits, free := e2.free, ent := e.ent + k, dl := true } ∧ w'.rowIs ob 30 1 (fun _ => lv') ∧
        Vec w' B 39 6 lv' (n + no + 1) (logA (n + no) (fS n lf D self life (j + 1) (.slice at0 L c) no) (evF 1 0 self life (j + 1) (.slice at0 L c))) ∧ Kept (own eb e ++ ob :: logv.ownBlock.toList) w w' := by
  have ho2 := ko_lt self life hs hl
  unfold mv
  have H := hid h
  have HG := hid hG
  have HOP := hid hop
  have HAC := hid hac
  have HO := hid hO
  have HL := hid hL
  have HHO := hid ho
  have HOUT := hid hout
  clear h hG hop hac hO hL ho hout
  go_enter Ybad.func11, Ybad.ntmps11
  go_upto_region 1 with fail
  refine wp_gen (fun w0 hw0 => ?_)
  have hk0 : Kept [] w w0 := by rw [hw0]; exact (Kept.refl _ w).alloc _
  have hm0 : w0.rowIs w.heap.size 35 4 (fun i => evF 0 0 self life (j + 1) (.slice at0 L c) (i + 2)) := by
    rw [hw0]
    exact ⟨_, Deep.blk_alloc_new _ _, rfl, fun i hi => by rcases i with _ | _ | _ | _ | i <;> first | rfl | omega⟩
  clear hw0
  have h0 : Cs w0 B eb e o k j := H.out.kept hk0 (by simp)
  have m0 : w0.cell? ⟨w.heap.size, 0, none⟩ = some (.int .u32 (self : Int)) := hm0.cell (i := 0) (by omega)
  have m1 : w0.cell? ⟨w.heap.size, 1, none⟩ = some (.int .u32 (life : Int)) := hm0.cell (i := 1) (by omega)
  have m2 : w0.cell? ⟨w.heap.size, 2, none⟩ = some (.int .u64 ((j + 1 : Nat) : Int)) := hm0.cell (i := 2) (by omega)
  have m3 : w0.cell? ⟨w.heap.size, 3, none⟩ = some (.slice at0 L c) := hm0.cell (i := 3) (by omega)
  have c17 : w0.cell? ⟨eb, 17, none⟩ = some (.int .i64 (e.ent : Int)) := World.rowIs.cell h0.hE (by omega)
  obtain ⟨s, hs1⟩ : ∃ s, s = j + 1 := ⟨_, rfl⟩
  rw [← hs1] at m2 hm0 ⊢
  have HS := hid hs1
  have H0 := hid h0
  have HM0 := hid hm0
  have HK0 := hid hk0
  clear hs1 h0 hm0 hk0
  have HWR : Hid (IntKind.i64.wrap ((e.ent : Int) + (k : Int)) = ((e.ent + k : Nat) : Int)) := by
    show IntKind.i64.wrap ((e.ent : Int) + (k : Int)) = ((e.ent + k : Nat) : Int)
    rw [IntKind.wrap_i64]
    omega
  have HOLD : Hid (∀ w1, Cs w1 B eb e o k j → B ≤ w1.heap.size → Calls Ybad.prog 17 #[.pointer (some ⟨eb, 5, none⟩), kv (ko self life) s, .int .i64 (-1)] w1 fun x w' => x = .returned (.int .i64 (k : Int)) ∧ ∃ e', Cs w' B eb e' o k s ∧ e' = { e with bits := e'.bits, free := e'.free } ∧ Kept (own eb e) w1 w') := by
    intro w1 h1 h2
    rw [HS.out, ← HHO.out]
    exact hold_any eb B o k j e w1 h1 hk hj (by rw [HHO.out]; exact ho2) h2
  go_cut [19] from 9 to 22 (fun _ wx => ∃ e', Cs wx B eb e' o k s ∧ e' = { e with bits := e'.bits, free := e'.free, ent := e.ent + k } ∧ Kept (own eb e) w0 wx)
  case first =>
    go_wp2
    go_region_with (first
      | (go_at_call 17; refine (HOLD.out _ HC1.out HBW1.out).mono ?_; rintro x w2 ⟨rfl, e2, hcs2, he2, hk2⟩; have d17 : w2.cell? ⟨eb, 17, none⟩ = some (.int .i64 (e.ent : Int)) := (World.rowIs.cell hcs2.hE (i := 17) (by omega)).trans (by rw [he2]; rfl); have f17 := E.fz hcs2.hE 17; have HC2 := hid hcs2; have HE2 := hid he2; have HKP2 := hid (HKP1.out.trans hk2); clear hcs2 he2 hk2)
      | (go_at_call 18; refine (keyOf_any self life s (.slice at0 L c) _ hs hl).mono ?_; rintro x w1 ⟨rfl, hb1⟩; have hk1 : Kept (own eb e) w0 w1 := Kept.of_below ((Below.drew (Below.refl w0.heap.size w0)).trans hb1); have hc1 : Cs w1 B eb e o k j := H0.out.kept (Kept.of_below (S := []) ((Below.drew (Below.refl w0.heap.size w0)).trans hb1)) (by simp); have d17 : w1.cell? ⟨eb, 17, none⟩ = some (.int .i64 (e.ent : Int)) := World.rowIs.cell hc1.hE (by omega); have HC1 := hid hc1; have HKP1 := hid hk1; have HBW1 : Hid (B ≤ w1.heap.size) := Nat.le_trans hBw (Nat.le_trans HK0.out.size hk1.size); clear hb1 hc1 hk1))
    all_goals
      rw [HWR.out]
      go_wp2
      go_meet
      exact ⟨{ e2 with ent := e.ent + k }, Cs.put HC2.out 17 _ (E.ent HC2.out.hE (e.ent + k)) rfl rfl rfl rfl rfl, congrArg (fun x : EV => { x with ent := e.ent + k }) HE2.out, HKP2.out.setCell (.inl (by simp [own])) _⟩
  case rest =>
    obtain ⟨w1, hw1⟩ : ∃ w1, w1 = wc := ⟨_, rfl⟩
    subst hw1
    obtain ⟨e1, hc1, he1, hk1⟩ := hcut
    have hm1 : w1.rowIs w.heap.size 35 4 (fun i => evF 0 0 self life s (.slice at0 L c) (i + 2)) := hk1.row HM0.out (H0.out.not_own HM0.out (by decide) (by decide) (by decide)).1
    clear m0 m1 m2 m3 c17
    have m0 : w1.cell? ⟨w.heap.size, 0, none⟩ = some (.int .u32 (self : Int)) := hm1.cell (i := 0) (by omega)
    have m1 : w1.cell? ⟨w.heap.size, 1, none⟩ = some (.int .u32 (life : Int)) := hm1.cell (i := 1) (by omega)
    have m2 : w1.cell? ⟨w.heap.size, 2, none⟩ = some (.int .u64 (s : Int)) := hm1.cell (i := 2) (by omega)
    have m3 : w1.cell? ⟨w.heap.size, 3, none⟩ = some (.slice at0 L c) := hm1.cell (i := 3) (by omega)
    have hop1 : w1.heap[e1.op]? = some (.map #[] 0) := by
      have h2 : e1.op = e.op := by rw [he1]
      have hl := (Array.getElem?_eq_some_iff.1 HOP.out).1
      rw [h2, hk1.block _ (Nat.lt_of_lt_of_le hl HK0.out.size) ?_, HK0.out.block _ hl (by simp)]
      · exact HOP.out
      · exact map_not_own H.out HOP.out hopr
    have hac1 : w1.heap[e1.ac]? = some (.map #[] 0) := by
      have h2 : e1.ac = e.ac := by rw [he1]
      have hl := (Array.getElem?_eq_some_iff.1 HAC.out).1
      rw [h2, hk1.block _ (Nat.lt_of_lt_of_le hl HK0.out.size) ?_, HK0.out.block _ hl (by simp)]
      · exact HAC.out
      · exact map_not_own H.out HAC.out hacr
    have HREC := hid (record_any eb e1 w1 self life s L c at0 hc1.hE hop1 hac1)
    unfold mv at HREC
    have HC1 := hid hc1
    have HE1 := hid he1
    have HM1 := hid hm1
    have HKP1 := hid hk1
    clear hc1 he1 hm1 hk1 hop1 hac1
    go_upto_region 3 with (go_at_call 19; refine HREC.out.mono ?_; rintro x w2 ⟨rfl, hb2⟩; have HB2 := hid hb2; clear hb2)
    have hk2 : Kept [] w1 w2 := Kept.of_below HB2.out
    have hc2 : Cs w2 B eb e1 o k s := HC1.out.kept hk2 (by simp)
    have hm2 : w2.rowIs w.heap.size 35 4 (fun i => evF 0 0 self life s (.slice at0 L c) (i + 2)) := hk2.row HM1.out (by simp)
    have hO0 : w0.rowIs ob 30 1 (fun _ => logv) := HK0.out.row HO.out (by simp)
    have hL0 : Vec w0 B 39 6 logv n lf := HK0.out.vec HL.out (by simp)
    have hG0 : Vec w0 B 61 2 e.outg no (olF D) := HK0.out.vec HG.out (by simp)
    have hO2 : w2.rowIs ob 30 1 (fun _ => logv) := hk2.row (HKP1.out.row hO0 (H0.out.not_own hO0 (by decide) (by decide) (by decide)).1) (by simp)
    have hL2 : Vec w2 B 39 6 logv n lf := hk2.vec (HKP1.out.vec hL0 (fun b hb => (H0.out.not_own_vec hL0 (by decide) (by decide) (by decide) b hb).1)) (by simp)
    have hG2 : Vec w2 B 61 2 e.outg no (olF D) := hk2.vec (HKP1.out.vec hG0 (fun b hb => (H0.out.not_own_vec hG0 (by decide) (by decide) (by decide) b hb).1)) (by simp)
    have hkk : Kept (own eb e) w w2 := ((HK0.out.mono (by simp)).trans HKP1.out).trans (hk2.mono (by simp))
    have hout2 : e1.outv = .iface 27 (.pointer (some ⟨ob, 0, none⟩)) := by rw [HE1.out]; exact HOUT.out
    have hog2 : e1.outg = e.outg := by rw [HE1.out]
    have hgv : ∃ ga gc, e.outg = .slice ga no gc := by
      rcases hG2.shape with ⟨h, h0⟩ | ⟨b, c, h, _⟩
      · exact ⟨_, _, by rw [h, h0]⟩
      · exact ⟨_, _, h⟩
    obtain ⟨ga, gc, hgv⟩ := hgv
    have c3 : w2.cell? ⟨eb, 3, none⟩ = some (.slice ga no gc) := by rw [hc2.hE.c3, hog2, hgv]
    clear m0 m1 m2 m3
    have m0 : w2.cell? ⟨w.heap.size, 0, none⟩ = some (.int .u32 (self : Int)) := hm2.cell (i := 0) (by omega)
    have m1 : w2.cell? ⟨w.heap.size, 1, none⟩ = some (.int .u32 (life : Int)) := hm2.cell (i := 1) (by omega)
    have m2 : w2.cell? ⟨w.heap.size, 2, none⟩ = some (.int .u64 (s : Int)) := hm2.cell (i := 2) (by omega)
    have m3 : w2.cell? ⟨w.heap.size, 3, none⟩ = some (.slice at0 L c) := hm2.cell (i := 3) (by omega)
    have HC2 := hid hc2
    have HM2 := hid hm2
    have HO2 := hid hO2
    have HL2 := hid hL2
    have HG2 := hid hG2
    have HKK := hid hkk
    have HOUT2 := hid hout2
    have HGV := hid hgv
    clear hk2 hc2 hm2 hO0 hL0 hG0 hO2 hL2 hG2 hkk hout2 hog2 hgv
    go_upto_block 0 with fail
    go_cut [8, 33] from 33 to 45 (fun _ _ wx => Kept (ob :: logv.ownBlock.toList) w2 wx ∧ ∃ lv, wx.rowIs ob 30 1 (fun _ => lv) ∧ Vec wx B 39 6 lv (n + no) (fS n lf D self life s (.slice at0 L c) no) ∧ ∀ b, lv.ownBlock = some b → logv.ownBlock = some b ∨ w2.heap.size ≤ b)
    case first =>
      go_wp2_with fail
      go_loopw [33, 8] (fun i _ wr => ∃ t : Nat, t ≤ no ∧ i = .int .i64 t ∧ Kept (ob :: logv.ownBlock.toList) w2 wr ∧ ∃ lv, wr.rowIs ob 30 1 (fun _ => lv) ∧ Vec wr B 39 6 lv (n + t) (fS n lf D self life s (.slice at0 L c) t) ∧ ∀ b, lv.ownBlock = some b → logv.ownBlock = some b ∨ w2.heap.size ≤ b) (fun i _ _ => no - (intOf i).toNat)
      case atStart => exact ⟨0, Nat.zero_le _, rfl, Kept.refl _ _, logv, HO2.out, HL2.out, fun b hb => .inl hb⟩
      case round =>
        obtain ⟨t, ht, rfl, hkr, lv, hOr, hLr, hat⟩ := hrel
        by_cases htn : t < no
        · have hcr : Cs wr B eb e1 o k s := HC2.out.kept hkr (fun b hb => by
            rcases List.mem_cons.1 hb with h | h
            · rw [h]; exact HC2.out.not_own HO2.out (by decide) (by decide) (by decide)
            · exact HC2.out.not_own_vec HL2.out (by decide) (by decide) (by decide) b (by simpa using h))
          have hGr : Vec wr B 61 2 e.outg no (olF D) := hkr.vec HG2.out (fun b hb hm => by
            rcases List.mem_cons.1 hm with h | h
            · exact vec_ne HG2.out HO2.out (by decide) (by rw [hb, h])
            · exact vec_vec_ne HG2.out HL2.out (by decide) b hb (by simpa using h))
          have hgs : ∃ gb, ga = some ⟨gb, 0, none⟩ := by
            have h2 := hGr
            rw [HGV.out] at h2
            rcases h2.shape with ⟨h, h0⟩ | ⟨b, c, h, _⟩
            · omega
            · simp only [Value.slice.injEq] at h
              exact ⟨b, h.1⟩
          obtain ⟨gb, rfl⟩ := hgs
          rw [HGV.out] at hGr
          have g0 : wr.cell? ⟨gb, t * 2, none⟩ = some (.int .u32 (D t : Int)) := by
            rw [hGr.cell (by omega)]
            unfold olF
            rw [if_pos (by omega), show t * 2 / 2 = t by omega]
          have g1 : wr.cell? ⟨gb, t * 2 + 1, none⟩ = some (.int .u64 0) := by
            rw [hGr.cell (by omega)]
            unfold olF
            rw [if_neg (by omega)]
          have c2 : wr.cell? ⟨eb, 2, none⟩ = some (.iface 27 (.pointer (some ⟨ob, 0, none⟩))) := by
            have : wr.cell? ⟨eb, 2, none⟩ = some e1.outv := World.rowIs.cell hcr.hE (by omega)
            rw [this, HOUT2.out]
          have hlt : eb < wr.heap.size := World.rowIs.lt hcr.hE
          have hBr : B ≤ wr.heap.size := by have := hkr.size; have := HKK.out.size; omega
          have HSEND := hid (send_any ob B (n + t) (D t) self life s at0 L c lv _ (wr.alloc (.cells #[.int .u32 (D t : Int), .int .u64 0] 61)).drew (World.rowIs.alloc hOr _) (hLr.alloc _) (by omega) (by show B ≤ (wr.alloc _).heap.size; rw [Deep.nblk_alloc]; omega))
          unfold mv at HSEND
          have HKR := hid hkr
          have HAT := hid hat
          clear hkr hOr hLr hat hcr hGr
          have hms := mSend
          go_wp2
          go_region_with (go_at_call 42; refine HSEND.out.mono ?_; rintro x w5 ⟨rfl, hlog⟩; have HLOG := hid hlog; clear hlog)
          all_goals
            go_wp2
            go_roundw
            case rel =>
              obtain ⟨lv', h1, h2, h3, h4⟩ := HLOG.out
              have hs5 : w2.heap.size ≤ (wr.alloc (.cells #[.int .u32 (D t : Int), .int .u64 0] 61)).heap.size := by rw [Deep.nblk_alloc]; have := HKR.out.size; omega
              refine ⟨t + 1, by omega, by go_num, ((HKR.out.alloc _).drew).step h4 (fun b hb => ?_), lv', h1, h2, fun b hb => ?_⟩
              · rcases List.mem_cons.1 hb with h | h
                · exact .inl (by simp [h])
                · exact (HAT.out b (by simpa using h)).imp (fun h => by simp [h]) id
              · rcases h3 b hb with h | h
                · exact HAT.out b h
                · exact .inr (Nat.le_trans hs5 h)
            case measure => simp [intOf]; omega
        · obtain rfl : t = no := by omega
          go_wp2
          go_meet
          exact ⟨hkr, lv, hOr, hLr, hat⟩
    case rest =>
      obtain ⟨w3, hw3⟩ : ∃ w3, w3 = wc := ⟨_, rfl⟩
      subst hw3
      obtain ⟨hk3, lv, hO3, hL3, hat3⟩ := hcut
      have hS3 : ∀ b ∈ ob :: logv.ownBlock.toList, b ∉ own eb e1 ∧ e1.slots.ownBlock ≠ some b := fun b hb => by
        rcases List.mem_cons.1 hb with h | h
        · rw [h]; exact HC2.out.not_own HO2.out (by decide) (by decide) (by decide)
        · exact HC2.out.not_own_vec HL2.out (by decide) (by decide) (by decide) b (by simpa using h)
      have hc3 : Cs w3 B eb e1 o k s := HC2.out.kept hk3 hS3
      have hm3 : w3.rowIs w.heap.size 35 4 (fun i => evF 0 0 self life s (.slice at0 L c) (i + 2)) := hk3.row HM2.out (fun hm => by
        rcases List.mem_cons.1 hm with h | h
        · have := HO.out.lt; omega
        · have := (World.ownsRow.lt HL.out _ (by simpa using h)).2; omega)
      clear m0 m1 m2 m3 c3
      have m0 : w3.cell? ⟨w.heap.size, 0, none⟩ = some (.int .u32 (self : Int)) := hm3.cell (i := 0) (by omega)
      have m1 : w3.cell? ⟨w.heap.size, 1, none⟩ = some (.int .u32 (life : Int)) := hm3.cell (i := 1) (by omega)
      have m2 : w3.cell? ⟨w.heap.size, 2, none⟩ = some (.int .u64 (s : Int)) := hm3.cell (i := 2) (by omega)
      have m3 : w3.cell? ⟨w.heap.size, 3, none⟩ = some (.slice at0 L c) := hm3.cell (i := 3) (by omega)
      have c2 : w3.cell? ⟨eb, 2, none⟩ = some (.iface 27 (.pointer (some ⟨ob, 0, none⟩))) := by
        have : w3.cell? ⟨eb, 2, none⟩ = some e1.outv := World.rowIs.cell hc3.hE (by omega)
        rw [this, HOUT2.out]
      have hB3 : B ≤ w3.heap.size := by have := hk3.size; have := HKK.out.size; omega
      have HDEL := hid (deliver_any ob B (n + no) self life s at0 L c lv _ w3.drew hO3 hL3 (by omega) hB3)
      unfold mv at HDEL
      have hSl : ∀ b ∈ ob :: lv.ownBlock.toList, b ∉ own eb e1 ∧ e1.slots.ownBlock ≠ some b := fun b hb => by
        rcases List.mem_cons.1 hb with h | h
        · rw [h]; exact hc3.not_own hO3 (by decide) (by decide) (by decide)
        · exact hc3.not_own_vec hL3 (by decide) (by decide) (by decide) b (by simpa using h)
      have HSL := hid hSl
      have HC3 := hid hc3
      have HK3 := hid hk3
      have HAT3 := hid hat3
      have HO3 := hid hO3
      have HL3 := hid hL3
      clear hS3 hc3 hm3 hSl hk3 hat3 hO3 hL3
      have hmd := mDeliver
      go_wp2
      go_region_with (go_at_call 41; refine HDEL.out.mono ?_; rintro x w4 ⟨rfl, lv4, g1, g2, g3, g4⟩; have hc4 : Cs w4 B eb e1 o k s := HC3.out.kept ((Kept.refl _ w3).drew.trans g4) HSL.out; have f14 := E.fz hc4.hE 14; have d14 : w4.cell? ⟨eb, 14, none⟩ = some (.bool e1.dl) := World.rowIs.cell hc4.hE (by omega); have HC4 := hid hc4; have G1 := hid g1; have G2 := hid g2; have G3 := hid g3; have G4 := hid g4; clear g1 g2 g3 g4 hc4)
      all_goals
        go_wp2
        go_end0
        rw [← HS.out]
        have hne4 : lv4.ownBlock ≠ some eb := vec_ne G2.out HC4.out.hE (by decide)
        have hob4 : ob ≠ eb := fun h => (HC4.out.not_own G1.out (by decide) (by decide) (by decide)).1 (by rw [h]; simp [own])
        refine ⟨rfl, { e1 with dl := true }, lv4, Cs.put HC4.out 14 _ (E.dl HC4.out.hE true) rfl rfl rfl rfl rfl, congrArg (fun x : EV => { x with dl := true }) HE1.out, World.rowIs.setOther G1.out hob4 _, vec_set G2.out hne4 _, ?_⟩
        have hfin : Kept (own eb e ++ ob :: logv.ownBlock.toList) w w4 := by
          refine ((HKK.out.mono (fun b hb => List.mem_append_left _ hb)).step HK3.out (fun b hb => .inl (List.mem_append_right _ hb))).step (Kept.step (Kept.refl _ w3).drew G4.out (fun b hb => .inl hb)) (fun b hb => ?_)
          rcases List.mem_cons.1 hb with h | h
          · exact .inl (List.mem_append_right _ (by simp [h]))
          · rcases HAT3.out b (by simpa using h) with h2 | h2
            · exact .inl (List.mem_append_right _ (by simp [h2]))
            · exact .inr (Nat.le_trans HKK.out.size h2)
        exact hfin.setCell (.inl (List.mem_append_left _ (by simp [own]))) _
end Go.Proofs.YbulkgbaiDoor
