import Derived.Test.YbulkgbaiStD
import Derived.Deep.RegionWith
import Derived.Deep.RegionHeld3
namespace Go.Proofs.Ybulkgbai
open Go.RowKit Go.Zz Go.Maps

attribute [-go_sem] Builtin.append_

theorem make39_1 (w : World) : (Instr.makeSlice 39 (.int .i64 1) (.int .i64 1)).run Yba.prog w = .ok (.slice (some ⟨w.heap.size, 0, none⟩) 1 1) (w.alloc (.cells (madeCells #[.int .u64 0] 1) 37)) := by
  have := run_make_any Yba.prog 39 37 (.int .u64 0) #[.int .u64 0] 1 8 Yba.underlying39 info37 rfl 1 (by omega) (by omega) w
  simpa using this

set_option maxRecDepth 100000 in
set_option maxHeartbeats 8000000 in
theorem walkC (fr0 n : Nat) (ent : Int) (a0 a1 a2 a3 : Option Addr) (L0 c0 b0 o0 L1 c1 b1 o1 L2 c2 b2 o2 L3 c3 b3 o3 : Nat) (X0 X1 F N BA BP ID LT : Nat → Nat) (LK : Nat → Int) (w : World)
    (hfr : fr0 < 4294967296) (_hn : n < 18446744073709551616) (hent : IntKind.i64.wrap ent = ent) (hL : L0 + L1 + L2 + L3 ≤ 4096)
    (hA0 : 0 < L0 → a0 = some ⟨b0, o0, none⟩) (hX0 : ∀ i, i < L0 → w.cell? ⟨b0, o0 + i, none⟩ = some (.int .u32 (X0 i : Int)))
    (hA1 : 0 < L1 → a1 = some ⟨b1, o1, none⟩) (hX1 : ∀ i, i < L1 → w.cell? ⟨b1, o1 + i, none⟩ = some (.int .u64 (X1 i : Int)) ∧ X1 i < 18446744073709551616)
    (hA2 : 0 < L2 → a2 = some ⟨b2, o2, none⟩) (hX2 : ∀ i, i < L2 → w.cell? ⟨b2, o2 + i * 4 + 0, none⟩ = some (.int .u32 (F i : Int)) ∧ w.cell? ⟨b2, o2 + i * 4 + 1, none⟩ = some (.int .u64 (N i : Int)) ∧ w.cell? ⟨b2, o2 + i * 4 + 2, none⟩ = some (.int .u8 (BA i : Int)) ∧ w.cell? ⟨b2, o2 + i * 4 + 3, none⟩ = some (.int .u8 (BP i : Int)) ∧ N i < 18446744073709551616)
    (hA3 : 0 < L3 → a3 = some ⟨b3, o3, none⟩) (hX3 : ∀ i, i < L3 → w.cell? ⟨b3, o3 + i * 3 + 0, none⟩ = some (.int .u32 (ID i : Int)) ∧ w.cell? ⟨b3, o3 + i * 3 + 1, none⟩ = some (.int .i64 (LK i)) ∧ w.cell? ⟨b3, o3 + i * 3 + 2, none⟩ = some (.int .u64 (LT i : Int))) :
    Calls Yba.prog 5 #[.int .u32 (fr0 : Int), .int .u64 (n : Int), .slice a0 L0 c0, .slice a1 L1 c1, .slice a2 L2 c2, .slice a3 L3 c3, .int .i64 ent] w fun x w' => x = .returned (.bool true) ∧ Below w.heap.size w w' := by
  have hmk := make39_1
  have hmm := @run_makeMap Yba.prog
  have hd1 : decide ((4096 : Int) < (L0 : Int) + (L1 : Int) + (L2 : Int) + (L3 : Int)) = false := decide_eq_false (by omega)
  have HA0 := hid hA0
  have HA1 := hid hA1
  have HA2 := hid hA2
  have HA3 := hid hA3
  have HX0 := hid hX0
  have HX1 := hid hX1
  have HX2 := hid hX2
  have HX3 := hid hX3
  have HENT := hid hent
  clear hA0 hA1 hA2 hA3 hX0 hX1 hX2 hX3 hent
  go_enter Yba.func5, Yba.ntmps5
  go_upto_region 5 with fail
  obtain ⟨fr, hfr6, hfre⟩ : ∃ fr : Nat, fr < 6 ∧ ((fr0 : Int) % 6) = (fr : Int) := ⟨fr0 % 6, by omega, by omega⟩
  rw [hfre]
  clear hfre hfr hmk hmm hd1
  refine wp_gen (fun w1 hw1 => ?_)
  have h1 : ST w1 w.heap.size (w.heap.size + 1 + 1 + 1 + 1 + 1 + 1) (e0 w.heap.size) D0 := by
    rw [hw1]
    exact start_st w
  have hb1 : Below w.heap.size w w1 := by
    rw [hw1]
    exact (litW_block w).2.2.2.2.2.2.2
  clear hw1
  obtain ⟨eb, heb⟩ : ∃ eb, eb = w.heap.size + 1 + 1 + 1 + 1 + 1 + 1 := ⟨_, rfl⟩
  rw [← heb] at h1 ⊢
  have hBe : w.heap.size ≤ eb := by omega
  clear heb
  obtain ⟨e, he⟩ : ∃ e, e = e0 w.heap.size := ⟨_, rfl⟩
  rw [← he] at h1
  obtain ⟨sb, hsb⟩ : ∃ sb, e.slots = .slice (some ⟨sb, 0, none⟩) 1 1 := ⟨_, by rw [he]; rfl⟩
  have HEF : Hid (e.self = 100 ∧ e.outv = .nilIface ∧ e.outg = .slice none 0 0 ∧ e.words = 1 ∧ e.free = .slice none 0 0 ∧ e.bits = .slice none 0 0) := by
    rw [he]
    exact ⟨rfl, rfl, rfl, rfl, rfl, rfl⟩
  have HBM : Hid (w.heap.size ≤ e.inc ∧ w.heap.size ≤ e.rm ∧ w.heap.size ≤ e.ac ∧ w.heap.size ≤ e.ar ∧ w.heap.size ≤ sb) := by
    rw [he] at hsb ⊢
    simp only [e0, Value.slice.injEq, Option.some.injEq, Addr.mk.injEq, and_true] at hsb ⊢
    refine ⟨?_, ?_, ?_, ?_, ?_⟩ <;> omega
  have HSB := hid hsb
  have H1 := hid h1
  have HB1 := hid hb1
  clear he hsb h1 hb1
  go_upto_block 0 with fail
  go_cut [17, 95, 19, 20] from 95 to 109 (fun v _ _ _ wx => ∃ (I : Nat) (ids : Nat → Nat), Vec wx w.heap.size 42 1 v I (fun i => idv (ids i)) ∧ (∀ i j, i < I → j < I → ids i = ids j → i = j) ∧ (∀ i, i < I → ids i < 6) ∧ ST wx w.heap.size eb e D0 ∧ Below w.heap.size w wx)
  case first =>
    as_aux_lemma =>
      go_wp2_with fail
      go_loopw [95, 17, 19, 20] (fun i v _ _ wr => ∃ (t I : Nat) (ids : Nat → Nat), t ≤ L0 ∧ i = .int .i64 t ∧ I ≤ t ∧ Vec wr w.heap.size 42 1 v I (fun i => idv (ids i)) ∧ (∀ i j, i < I → j < I → ids i = ids j → i = j) ∧ (∀ i, i < I → ids i < 6) ∧ ST wr w.heap.size eb e D0 ∧ Below w.heap.size w wr) (fun i _ _ _ _ => L0 - (intOf i).toNat)
      case atStart => exact ⟨0, 0, fun _ => 0, Nat.zero_le _, rfl, Nat.le_refl _, Vec.nil _ _ _ _ _, fun i j hi => by omega, fun i hi => by omega, H1.out, HB1.out⟩
      case round =>
        obtain ⟨t, I, ids, ht, rfl, hIt, hv, hinj, h6, hst, hb⟩ := hrel
        by_cases htn : t < L0
        · obtain rfl := HA0.out (by omega)
          have c0 : wr.cell? ⟨b0, o0 + t, none⟩ = some (.int .u32 (X0 t : Int)) := by
            have := HX0.out t htn
            rw [hb.cell (World.block_lt_of_cell? w _ this)]
            exact this
          obtain ⟨y, hy6, hye⟩ : ∃ y : Nat, y < 6 ∧ ((X0 t : Int) % 6) = (y : Int) := ⟨X0 t % 6, by omega, by omega⟩
          have HCON := hid (contains13 w.heap.size I y ids _ wr hv (by omega))
          obtain ⟨va, vc, rfl, _⟩ := vec_slice hv
          obtain ⟨b3, cap3, w3, hap, hV3, hgr3, _⟩ := app1 wr w.heap.size 56 42 _ 1 4 Yba.underlying56 info42 rfl (by decide) _ I _ (fun i => idv (snoc ids I y i)) hv #[.int .u32 (y : Int)] rfl (fun j hj => by (obtain rfl : j = 0 := by omega); rfl) (fun j hj => by rw [snoc_lt (by omega)]) (fun j hj => by (obtain rfl : j = 0 := by omega); rw [Nat.mul_one, Nat.add_zero, snoc_eq]; rfl) (by omega) (by decide) hb.size
          have hst3 := hst.app hv (by decide) (by decide) (by decide) (fun x _ => by rw [HEF.out.2.2.2.2.1]; simp [Value.ownBlock]) hgr3
          have hb3 : Below w.heap.size w w3 := hb.grown hgr3 hb.size (fun q hq => (World.ownsRow.lt hv q hq).1)
          have HV := hid hv
          have HINJ := hid hinj
          have H6 := hid h6
          have HST := hid hst
          have HB := hid hb
          have HAP := hid hap
          have HV3 := hid hV3
          have HST3 := hid hst3
          have HB3 := hid hb3
          clear hv hinj h6 hst hb hap hV3 hgr3 hst3 hb3
          go_wp2_with (first
            | (go_at_call 13; refine HCON.out.mono ?_; rintro x w4 ⟨h4, rfl⟩; rcases h4 with ⟨hex, rfl⟩ | ⟨hno, rfl⟩)
            | (at_builtin; refine wpList_append_run rfl (.tmp 105) (.tmp 107) 56 56 rfl rfl rfl rfl HAP.out ?_))
          · go_roundw
            case rel => exact ⟨t + 1, I, ids, by omega, by go_num, by omega, HV.out, HINJ.out, H6.out, HST.out, HB.out⟩
            case measure => simp [intOf]; omega
          · go_roundw
            case rel =>
              exact ⟨t + 1, I + 1, snoc ids I y, by omega, by go_num, by omega, HV3.out, snoc_inj HINJ.out hno, snoc_all (p := fun x => x < 6) H6.out hy6, HST3.out, HB3.out⟩
            case measure => simp [intOf]; omega
        · obtain rfl : t = L0 := by omega
          go_wp2
          go_meet
          exact ⟨I, ids, hv, hinj, h6, hst, hb⟩
  case rest =>
    obtain ⟨w2, hw2⟩ : ∃ w2, w2 = wc := ⟨_, rfl⟩
    subst hw2
    obtain ⟨I, ids, hv2, hinj, h6, hst2, hb2⟩ := hcut
    have hI6 := le_six I ids hinj h6
    obtain ⟨va, vc, rfl, hva⟩ := vec_slice hv2
    have HVI2 := hid hv2
    have HVA := hid hva
    have HINJ := hid hinj
    have H6 := hid h6
    have HST2 := hid hst2
    have HB2 := hid hb2
    clear hv2 hva hinj h6 hst2 hb2 H1 HB1 HA0 HX0
    go_upto_block 2 with fail
    go_cut [21, 22, 112, 23, 24] from 112 to 132 (fun mk sf _ _ _ wx => mk = .int .u64 ((2 ^ I - 1 : Nat) : Int) ∧ (∃ s : Int, sf = .int .i64 s ∧ SF ids fr I s) ∧ Vec wx w.heap.size 42 1 (.slice va I vc) I (fun i => idv (ids i)) ∧ ST wx w.heap.size eb e (mkB I ids 0 0 (fun _ => 0)) ∧ Below w.heap.size w wx)
    case first =>
      as_aux_lemma =>
        go_wp2_with fail
        go_loopw [112, 21, 22, 23, 24] (fun i mk sf _ _ wr => ∃ t : Nat, t ≤ I ∧ i = .int .i64 t ∧ mk = .int .u64 ((2 ^ t - 1 : Nat) : Int) ∧ (∃ s : Int, sf = .int .i64 s ∧ SF ids fr t s) ∧ Vec wr w.heap.size 42 1 (.slice va I vc) I (fun i => idv (ids i)) ∧ ST wr w.heap.size eb e (mkB t ids 0 0 (fun _ => 0)) ∧ Below w.heap.size w wr) (fun i _ _ _ _ _ => I - (intOf i).toNat)
        case atStart =>
          exact ⟨0, Nat.zero_le _, rfl, rfl, ⟨-1, rfl, .inr ⟨fun i hi => by omega, rfl⟩⟩, HVI2.out, HST2.out.put_inc2 (Kept.refl _ _) (ix_zero_of HST2.out.inc), HB2.out⟩
        case round =>
          obtain ⟨t, ht, rfl, rfl, ⟨s, rfl, hsf⟩, hv, hst, hb⟩ := hrel
          by_cases htn : t < I
          · obtain ⟨g, rfl⟩ := HVA.out (by omega)
            have cI : wr.cell? ⟨g, t, none⟩ = some (.int .u32 (ids t : Int)) := hv.cell (by omega)
            have hinc : IX wr Yba.prog 42 e.inc t (fun i => idv (ids i)) iv (fun _ => true) := hst.inc
            obtain ⟨kl, hkl⟩ := idv_key (ids t) (by have := H6.out t htn; omega)
            obtain ⟨w3, hup, hn3, hg3⟩ := IX.store k42 Yba.underlying44 (e := 3) hinc (by omega) (key := idv (ids t)) (val := iv t) hkl (fun j hj e1 => by have := HINJ.out j t (by omega) htn (idv_inj e1); omega) (K' := fun i => idv (ids i)) (V' := iv) (M' := fun _ => true) (fun _ _ => rfl) (fun _ _ => rfl) (fun _ _ => rfl) rfl rfl rfl
            have hst3 : ST w3 w.heap.size eb e (mkB (t + 1) ids 0 0 (fun _ => 0)) := hst.put_inc2 (Kept.of_grown hg3) hn3
            have hv3 := hv.kept hg3 (.inr (ix_vec hinc hv))
            have hb3 : Below w.heap.size w w3 := hb.grown hg3 hb.size (fun q hq => by cases hq; exact HBM.out.1)
            have c4 := hst.hE.c4
            unfold idv iv at hup
            have HV3 := hid hv3
            have HST3 := hid hst3
            have HB3 := hid hb3
            have HSF := hid hsf
            clear hv hst hb hsf hkl hn3 hg3 hst3 hv3 hb3 hinc
            by_cases hef : ids t = fr
            · have e1 : ((ids t : Int) == (fr : Int)) = true := by simp [hef]
              have HEF' := hid hef
              clear hef
              go_wp2
              go_roundw
              case rel => exact ⟨t + 1, by omega, by go_num, by rw [mask_step t (by omega)], ⟨_, rfl, SF.hit HEF'.out⟩, HV3.out, HST3.out, HB3.out⟩
              case measure => simp [intOf]; omega
            · have e1 : ((ids t : Int) == (fr : Int)) = false := by simp; omega
              have HNE := hid hef
              clear hef
              go_wp2
              go_roundw
              case rel => exact ⟨t + 1, by omega, by go_num, by rw [mask_step t (by omega)], ⟨_, rfl, HSF.out.skip HNE.out⟩, HV3.out, HST3.out, HB3.out⟩
              case measure => simp [intOf]; omega
          · obtain rfl : t = I := by omega
            go_wp2
            go_meet
            exact ⟨rfl, ⟨s, rfl, hsf⟩, hv, hst, hb⟩
    case rest =>
      obtain ⟨w3, hw3⟩ : ∃ w3, w3 = wc := ⟨_, rfl⟩
      subst hw3
      obtain ⟨rfl, ⟨s, rfl, hsf⟩, hv3, hst3, hb3⟩ := hcut
      obtain ⟨mask, hmask⟩ : ∃ mask, mask = 2 ^ I - 1 := ⟨_, rfl⟩
      have hm64 := mask_lt I hI6
      rw [← hmask] at hm64 ⊢
      have HSF := hid hsf
      have HMASK := hid hmask
      have c9 := hst3.hE.c9
      rw [HSB.out] at c9
      have hsl := hst3.slots
      rw [HSB.out] at hsl
      have s0 : w3.cell? ⟨sb, 0, none⟩ = some (.int .u64 0) := hsl.cell (j := 0) (by omega)
      have g0 : w3.frozen? ⟨sb, 0, none⟩ = false := hsl.frozen 0
      have hst4 : ST (w3.setCell ⟨sb, 0, none⟩ (.int .u64 (mask : Int))) w.heap.size eb e (mkB I ids mask 0 (fun _ => 0)) := hst3.put_slots HSB.out mask
      have hns : sb ≠ eb := vec_tag hsl hst3.hE (by decide)
      have hv4 : Vec (w3.setCell ⟨sb, 0, none⟩ (.int .u64 (mask : Int))) w.heap.size 42 1 (.slice va I vc) I (fun i => idv (ids i)) := vec_set hv3 (fun h1 => vec_vec_ne hv3 hst3.slots (by decide) sb h1 (by rw [HSB.out]; rfl)) _
      have hb4 : Below w.heap.size w (w3.setCell ⟨sb, 0, none⟩ (.int .u64 (mask : Int))) := hb3.setCell HBM.out.2.2.2.2 _
      have HST4 := hid hst4
      have HV4 := hid hv4
      have HB4 := hid hb4
      clear hsf hmask hv3 hst3 hb3 hsl hst4 hv4 hb4 HVI2 HST2 HB2
      go_upto_region 24 with fail
      refine wp_gen (fun w4 hw4 => ?_)
      rw [← hw4] at HST4 HV4 HB4
      clear hw4 c9 s0 g0 hns
      go_upto_block 4 with fail
      go_cut [142, 25, 26] from 142 to 170 (fun _ _ _ wx => ∃ bv, ST wx w.heap.size eb { e with bits := bv } (mkB I ids mask L1 (fun i => X1 i &&& mask)) ∧ Vec wx w.heap.size 42 1 (.slice va I vc) I (fun i => idv (ids i)) ∧ Below w.heap.size w wx)
      case first =>
        as_aux_lemma =>
          go_wp2_with fail
          go_loopw [142, 25, 26] (fun i _ _ wr => ∃ (t : Nat) (bw : Nat → Nat) (bv : Value), t ≤ L1 ∧ i = .int .i64 t ∧ (∀ i, i < t → bw i = X1 i &&& mask) ∧ ST wr w.heap.size eb { e with bits := bv } (mkB I ids mask t bw) ∧ Vec wr w.heap.size 42 1 (.slice va I vc) I (fun i => idv (ids i)) ∧ Below w.heap.size w wr) (fun i _ _ _ => L1 - (intOf i).toNat)
          case atStart => exact ⟨0, fun _ => 0, e.bits, Nat.zero_le _, rfl, fun i hi => by omega, HST4.out, HV4.out, HB4.out⟩
          case round =>
            obtain ⟨t, bw, bv, ht, rfl, hbw, hst, hv, hb⟩ := hrel
            by_cases htn : t < L1
            · obtain rfl := HA1.out (by omega)
              have cX : wr.cell? ⟨b1, o1 + t, none⟩ = some (.int .u64 (X1 t : Int)) := by
                have := (HX1.out t htn).1
                rw [hb.cell (World.block_lt_of_cell? w _ this)]
                exact this
              have hrm : IX wr Yba.prog 59 e.rm t (fun i => kv i 1) iv (fun _ => true) := hst.rm
              obtain ⟨kl, hkl⟩ := kv_key t 1 (by omega) (by omega)
              obtain ⟨w5, hup, hn5, hg5⟩ := IX.store k59 Yba.underlying45 (e := 3) hrm (by omega) (key := kv t 1) (val := iv t) hkl (fun j hj e1 => by have := (kv_inj e1).1; omega) (K' := fun i => kv i 1) (V' := iv) (M' := fun _ => true) (fun _ _ => rfl) (fun _ _ => rfl) (fun _ _ => rfl) rfl rfl rfl
              have hbits : Vec wr w.heap.size 37 1 bv t (fun i => .int .u64 (bw i : Int)) := hst.bits
              have hnm : bv.ownBlock ≠ some e.rm := ix_vec hrm hbits
              have hbits5 : Vec w5 w.heap.size 37 1 bv t (fun i => .int .u64 (bw i : Int)) := hbits.kept hg5 (.inr hnm)
              have hb5 : Below w.heap.size w w5 := hb.grown hg5 hb.size (fun q hq => by cases hq; exact HBM.out.2.1)
              have hnrm : e.rm ≠ eb := hst.apart.m1
              have hE5 : E w5 eb { e with bits := bv } := rowIs_grown hst.hE hg5 (fun e1 => hnrm (by simpa using e1.symm))
              obtain ⟨b6, cap6, w6, hap, hV6, hgr6, hat6⟩ := app1 w5 w.heap.size 39 37 _ 1 8 Yba.underlying39 info37 rfl (by decide) bv t _ (fun i => .int .u64 ((snoc bw t (X1 t &&& mask) i : Nat) : Int)) hbits5 #[.int .u64 ((X1 t &&& mask : Nat) : Int)] rfl (fun j hj => by (obtain rfl : j = 0 := by omega); rfl) (fun j hj => by rw [snoc_lt (by omega)]) (fun j hj => by (obtain rfl : j = 0 := by omega); rw [Nat.mul_one, Nat.add_zero, snoc_eq]; rfl) (by omega) (by decide) hb5.size
              have hnb : bv.ownBlock ≠ some eb := vec_ne hbits hst.hE (by decide)
              have hE6 : E w6 eb { e with bits := bv } := rowIs_grown hE5 hgr6 (fun e1 => hnb e1.symm)
              have hst7 := hst.row hn5 hg5 hV6 hgr6 hat6
              have hv5 := hv.kept hg5 (.inr (ix_vec hrm hv))
              have hv6 := hv5.kept hgr6 (by
                cases h1 : bv.ownBlock with
                | none => cases (Value.slice va I vc).ownBlock <;> simp
                | some z => exact .inr (fun e1 => vec_vec_ne hv5 hbits5 (by decide) z e1 h1))
              have hv7 := vec_set (a := ⟨eb, 6, none⟩) hv6 (fun h1 => vec_ne hv6 hE6 (by decide) h1) (.slice (some ⟨b6, 0, none⟩) (t + 1) cap6)
              have hb7 : Below w.heap.size w (w6.setCell ⟨eb, 6, none⟩ (.slice (some ⟨b6, 0, none⟩) (t + 1) cap6)) := (hb5.grown hgr6 hb5.size (fun q hq => (World.ownsRow.lt hbits q hq).1)).setCell hBe _
              obtain ⟨ba, bc, rfl, _⟩ := vec_slice hbits
              have c5 : wr.cell? ⟨eb, 5, none⟩ = some (.map (some e.rm)) := hst.hE.c5
              have c6 : w5.cell? ⟨eb, 6, none⟩ = some (.slice ba t bc) := hE5.c6
              have d6 : w6.cell? ⟨eb, 6, none⟩ = some (.slice ba t bc) := hE6.c6
              have g6 := hE6.fz 6
              have hlt5 : eb < w5.heap.size := World.rowIs.lt hE5
              have q1 : bits .and .u64 (X1 t : Int) (mask : Int) = ((X1 t &&& mask : Nat) : Int) := u64_and_nat _ _ (HX1.out t htn).2 (by omega)
              unfold kv iv at hup
              rw [show ((1 : Nat) : Int) = 1 from rfl] at hup
              have HAP := hid hap
              have HST7 := hid hst7
              have HV7 := hid hv7
              have HB7 := hid hb7
              have HBW := hid hbw
              clear hbw hst hv hb hrm hkl hn5 hg5 hbits hbits5 hb5 hnm hnrm hE5 hap hV6 hgr6 hat6 hnb hE6 hst7 hv5 hv6 hv7 hb7
              go_wp2_with (at_builtin; refine wpList_append_run rfl (.tmp 161) (.tmp 165) 39 39 rfl rfl rfl rfl HAP.out ?_)
              go_roundw
              case rel =>
                refine ⟨t + 1, snoc bw t (X1 t &&& mask), _, by omega, by go_num, fun i hi => ?_, HST7.out, HV7.out, HB7.out⟩
                by_cases e1 : i = t
                · rw [e1, snoc_eq]
                · rw [snoc_lt (by omega)]
                  exact HBW.out i (by omega)
              case measure => simp [intOf]; omega
            · obtain rfl : t = L1 := by omega
              go_wp2
              go_meet
              exact ⟨bv, hst.congr (fun _ _ => rfl) hbw (fun _ _ => rfl) rfl rfl (fun _ _ => rfl) (fun _ _ _ => ⟨rfl, rfl⟩) (fun _ _ => rfl), hv, hb⟩
      case rest =>
        obtain ⟨w5, hw5⟩ : ∃ w5, w5 = wc := ⟨_, rfl⟩
        subst hw5
        obtain ⟨bv, hst5, hv5, hb5⟩ := hcut
        obtain ⟨e5, he5⟩ : ∃ e5 : EV, e5 = { e with bits := bv } := ⟨_, rfl⟩
        rw [← he5] at hst5
        have HEF5 : Hid (e5.self = 100 ∧ e5.outv = .nilIface ∧ e5.outg = .slice none 0 0 ∧ e5.words = 1 ∧ e5.free = .slice none 0 0) := by
          rw [he5]
          exact ⟨HEF.out.1, HEF.out.2.1, HEF.out.2.2.1, HEF.out.2.2.2.1, HEF.out.2.2.2.2.1⟩
        have HBM5 : Hid (w.heap.size ≤ e5.inc ∧ w.heap.size ≤ e5.rm ∧ w.heap.size ≤ e5.ac ∧ w.heap.size ≤ e5.ar) := by
          rw [he5]
          exact ⟨HBM.out.1, HBM.out.2.1, HBM.out.2.2.1, HBM.out.2.2.2.1⟩
        obtain ⟨bw, hbw⟩ : ∃ bw : Nat → Nat, bw = fun i => X1 i &&& mask := ⟨_, rfl⟩
        rw [← hbw] at hst5
        have HBW : Hid (∀ i, bw i = X1 i &&& mask) := fun i => by rw [hbw]
        have HST5 := hid hst5
        have HV5 := hid hv5
        have HB5 := hid hb5
        clear hst5 hv5 hb5 he5 hbw HEF HBM HSB HST4 HV4 HB4
        go_upto_block 6 with fail
        go_cut [27, 28, 29, 173, 31, 32, 33] from 173 to 224 (fun ak ap ab _ _ _ _ wx => ∃ (m : Nat) (f nn pa la lb : Nat → Nat), m ≤ L2 ∧ (∀ j, nn j ≤ 18446744073709551615) ∧ ST wx w.heap.size eb e5 (mkD I ids mask L1 bw m f nn pa la lb 0 (fun _ => 0) (fun _ => 0) (fun _ => 0)) ∧ Vec wx w.heap.size 65 2 ak m (kf2 f nn) ∧ Vec wx w.heap.size 67 1 ap m (ptr pa) ∧ Vec wx w.heap.size 3 1 ab m (fun j => iv (la j + lb j)) ∧ Vec wx w.heap.size 42 1 (.slice va I vc) I (fun i => idv (ids i)) ∧ Below w.heap.size w wx)
        case first =>
          as_aux_lemma =>
            go_wp2_with fail
            go_loopw [173, 27, 28, 29, 31, 32, 33] (fun i ak ap ab _ _ _ wr => ∃ (t m : Nat) (f nn pa la lb : Nat → Nat), t ≤ L2 ∧ i = .int .i64 t ∧ m ≤ t ∧ (∀ j, nn j ≤ 18446744073709551615) ∧ ST wr w.heap.size eb e5 (mkD I ids mask L1 bw m f nn pa la lb 0 (fun _ => 0) (fun _ => 0) (fun _ => 0)) ∧ Vec wr w.heap.size 65 2 ak m (kf2 f nn) ∧ Vec wr w.heap.size 67 1 ap m (ptr pa) ∧ Vec wr w.heap.size 3 1 ab m (fun j => iv (la j + lb j)) ∧ Vec wr w.heap.size 42 1 (.slice va I vc) I (fun i => idv (ids i)) ∧ Below w.heap.size w wr) (fun i _ _ _ _ _ _ _ => L2 - (intOf i).toNat)
            case atStart => exact ⟨0, 0, fun _ => 0, fun _ => 0, fun _ => 0, fun _ => 0, fun _ => 0, Nat.zero_le _, rfl, Nat.le_refl _, fun _ => Nat.zero_le _, HST5.out, Vec.nil _ _ _ _ _, Vec.nil _ _ _ _ _, Vec.nil _ _ _ _ _, HV5.out, HB5.out⟩
            case round =>
              obtain ⟨t, m, f, nn, pa, la, lb, ht, rfl, hmt, hnn, hst, h27, h28, h29, h17, hb⟩ := hrel
              by_cases htn : t < L2
              · obtain rfl := HA2.out (by omega)
                obtain ⟨x0, x1, x2, x3, hN64⟩ := HX2.out t htn
                have y0 : wr.cell? ⟨b2, o2 + t * 4, none⟩ = some (.int .u32 (F t : Int)) := (hb.cell (World.block_lt_of_cell? w _ x0)).trans x0
                have y1 : wr.cell? ⟨b2, o2 + t * 4 + 1, none⟩ = some (.int .u64 (N t : Int)) := (hb.cell (World.block_lt_of_cell? w _ x1)).trans x1
                have y2 : wr.cell? ⟨b2, o2 + t * 4 + 2, none⟩ = some (.int .u8 (BA t : Int)) := (hb.cell (World.block_lt_of_cell? w _ x2)).trans x2
                have y3 : wr.cell? ⟨b2, o2 + t * 4 + 3, none⟩ = some (.int .u8 (BP t : Int)) := (hb.cell (World.block_lt_of_cell? w _ x3)).trans x3
                clear x0 x1 x2 x3
                obtain ⟨y, hy6, hye⟩ : ∃ y : Nat, y < 6 ∧ ((F t : Int) % 6) = (y : Int) := ⟨F t % 6, by omega, by omega⟩
                obtain ⟨p4, hp4, hpe⟩ : ∃ p : Nat, p < 4 ∧ ((BA t : Int) % 4) = (p : Int) := ⟨BA t % 4, by omega, by omega⟩
                obtain ⟨r4, hr4, hre⟩ : ∃ p : Nat, p < 4 ∧ ((BP t : Int) % 4) = (p : Int) := ⟨BP t % 4, by omega, by omega⟩
                obtain ⟨ka, kc, rfl, _⟩ := vec_slice h27
                obtain ⟨pp, pc, rfl, _⟩ := vec_slice h28
                obtain ⟨aa, ac, rfl, _⟩ := vec_slice h29
                have HST := hid hst
                have H27 := hid h27
                have H28 := hid h28
                have H29 := hid h29
                have H17 := hid h17
                have HB := hid hb
                have HNN := hid hnn
                clear hst h27 h28 h29 h17 hb hnn
                go_upto_region 37 with fail
                refine wp_gen (fun wB hwB => ?_)
                have hkB : Kept [] wr wB := by rw [hwB]; exact ((Kept.refl _ wr).alloc _).alloc _
                have rab : wB.rowIs wr.heap.size 63 4 (fun i => if i = 0 then .int .u32 (F t : Int) else if i = 1 then .int .u64 (N t : Int) else if i = 2 then .int .u8 (BA t : Int) else .int .u8 (BP t : Int)) := by
                  rw [hwB]
                  exact World.rowIs.alloc (alloc4 _ _ _ _ _ _) _
                have rkb : wB.rowIs (wr.heap.size + 1) 65 2 (kf2 (fun _ => y) (fun _ => N t)) := by
                  rw [hwB]
                  have := alloc2 (wr.alloc (.cells #[.int .u32 (F t : Int), .int .u64 (N t : Int), .int .u8 (BA t : Int), .int .u8 (BP t : Int)] 63)) (.int .u32 (y : Int)) (.int .u64 (N t : Int)) 65
                  rw [Deep.nblk_alloc] at this
                  exact this.congr fun i hi => by rcases (show i = 0 ∨ i = 1 by omega) with rfl | rfl <;> rfl
                clear hwB y0 y1 y2 y3
                have HCON := hid (contains14 w.heap.size m y (N t) f nn _ wB (hkB.vec H27.out (by simp)) (by omega))
                unfold lv at HCON
                have k0 : wB.cell? ⟨wr.heap.size + 1, 0, none⟩ = some (.int .u32 (y : Int)) := rkb.cell (i := 0) (by omega)
                have k1 : wB.cell? ⟨wr.heap.size + 1, 1, none⟩ = some (.int .u64 (N t : Int)) := rkb.cell (i := 1) (by omega)
                have HKB := hid hkB
                have RAB := hid rab
                have RKB := hid rkb
                clear hkB rab rkb
                go_upto_region 38 with (go_at_call 14; refine HCON.out.mono ?_; rintro x wC ⟨hC, hbC⟩; rcases hC with ⟨hex, rfl⟩ | ⟨hno, rfl⟩)
                · have hkC : Kept [] wr wC := HKB.out.trans (Kept.of_below hbC)
                  go_wp2_with fail
                  go_roundw
                  case rel => exact ⟨t + 1, m, f, nn, pa, la, lb, by omega, by go_num, by omega, HNN.out, HST.out.quiet hkC, hkC.vec H27.out (by simp), hkC.vec H28.out (by simp), hkC.vec H29.out (by simp), hkC.vec H17.out (by simp), HB.out.trans (hkC.below HB.out.size (by simp))⟩
                  case measure => simp [intOf]; omega
                · have hkC : Kept [] wB wC := Kept.of_below hbC
                  have rab' := hkC.row RAB.out (by simp)
                  have rkb' := hkC.row RKB.out (by simp)
                  have a2 : wC.cell? ⟨wr.heap.size, 2, none⟩ = some (.int .u8 (BA t : Int)) := rab'.cell (i := 2) (by omega)
                  have a3 : wC.cell? ⟨wr.heap.size, 3, none⟩ = some (.int .u8 (BP t : Int)) := rab'.cell (i := 3) (by omega)
                  have hm1 := fun w => make68 p4 hp4 w
                  have hm2 := fun w => make68 r4 hr4 w
                  have q1 : IntKind.i64.wrap (p4 : Int) = (p4 : Int) := by rw [IntKind.wrap_i64]; omega
                  have q2 : IntKind.i64.wrap (r4 : Int) = (r4 : Int) := by rw [IntKind.wrap_i64]; omega
                  have HKC : Hid (Kept [] wr wC) := HKB.out.trans hkC
                  have HNO := hid hno
                  have RAB' := hid rab'
                  have RKB' := hid rkb'
                  have q3 : (BA t : Int).tmod 4 = (p4 : Int) := by rw [Int.tmod_eq_emod_of_nonneg (by omega)]; exact hpe
                  have q4 : (BP t : Int).tmod 4 = (r4 : Int) := by rw [Int.tmod_eq_emod_of_nonneg (by omega)]; exact hre
                  have hkal : wr.heap.size < wC.heap.size := World.rowIs.lt rab'
                  have hkbl : wr.heap.size + 1 < wC.heap.size := World.rowIs.lt rkb'
                  clear hkC rab' rkb' hno hbC k0 k1 HCON RAB RKB HKB
                  go_region
                  all_goals
                    refine q_gen (fun wD hwD => ?_)
                    have hkD : Kept [] wC wD := by rw [hwD]; exact ((((Kept.refl _ wC).alloc _).alloc _).alloc _).drew
                    obtain ⟨FF, fa, fc, ga, gc, hrowD, hFF2, hFF3⟩ : ∃ FF fa fc ga gc, wD.rowIs (wC.heap.size + 1 + 1) 71 4 FF ∧ FF 2 = .slice fa p4 fc ∧ FF 3 = .slice ga r4 gc := by
                      rw [hwD]
                      exact ⟨_, _, _, _, _, alloc_at _ _ _ _ _ _ _ _, rfl, rfl⟩
                    clear hwD hm1 hm2 q1 q2 q3 q4 a2 a3 hkal hkbl
                    have hkr : Kept [] wr wD := HKC.out.trans hkD
                    have rabD := hkD.row RAB'.out (by simp)
                    have rkbD := hkD.row RKB'.out (by simp)
                    have hstD := HST.out.quiet hkr
                    have d11 : wD.cell? ⟨eb, 11, none⟩ = some (.map (some e5.ac)) := hstD.hE.c11
                    have hk0 := rkbD.cell (i := 0) (by omega)
                    have hk1 := rkbD.cell (i := 1) (by omega)
                    rw [show kf2 (fun _ => y) (fun _ => N t) 0 = .int .u32 (y : Int) from rfl] at hk0
                    rw [show kf2 (fun _ => y) (fun _ => N t) 1 = .int .u64 (N t : Int) from rfl] at hk1
                    have hszD := hkr.size
                    obtain ⟨wE, hup, rkE, b1', c1', w1', hap1, b2', c2', w2', hap2, raE, b3', c3', w3', hap3, hstF, h27F, h28F, h29F, h17F, hbF⟩ := hstD.acc (hkr.vec H27.out (by simp)) (hkr.vec H28.out (by simp)) (hkr.vec H29.out (by simp)) (hkr.vec H17.out (by simp)) y (N t) (wC.heap.size + 1 + 1) p4 r4 (wr.heap.size + 1) wr.heap.size FF _ hy6 hN64 HNO.out hrowD hFF2 hFF3 hp4 hr4 rkbD rabD (by omega) (by have := HB.out.size; omega) HBM5.out.2.2.1 HEF5.out.2.2.2.2
                    have hbF' : Below w.heap.size w w3' := hbF w (HB.out.trans (hkr.below HB.out.size (by simp)))
                    have g0 := rkE.cell (i := 0) (by omega)
                    have g1 := rkE.cell (i := 1) (by omega)
                    rw [show kf2 (fun _ => y) (fun _ => N t) 0 = .int .u32 (y : Int) from rfl] at g0
                    rw [show kf2 (fun _ => y) (fun _ => N t) 1 = .int .u64 (N t : Int) from rfl] at g1
                    have e2 : w2'.cell? ⟨wr.heap.size, 2, none⟩ = some (.int .u8 (BA t : Int)) := raE.cell (i := 2) (by omega)
                    have e3 : w2'.cell? ⟨wr.heap.size, 3, none⟩ = some (.int .u8 (BP t : Int)) := raE.cell (i := 3) (by omega)
                    unfold lv at hup
                    unfold iv at hap3
                    rw [Int.natCast_add] at hap3
                    have HAP1 := hid hap1
                    have HAP2 := hid hap2
                    have HAP3 := hid hap3
                    have HSTF := hid hstF
                    have H27F := hid h27F
                    have H28F := hid h28F
                    have H29F := hid h29F
                    have H17F := hid h17F
                    have HBF := hid hbF'
                    clear hkD hrowD hFF2 hFF3 hkr rabD rkbD hstD rkE hap1 hap2 raE hap3 hstF h27F h28F h29F h17F hbF hbF' hszD
                    go_upto_region 39 with fail
                    go_region
                    go_wp2_with (first
                      | (at_builtin; refine wpList_append_run rfl (.tmp 204) (.tmp 206) 60 60 rfl rfl rfl rfl HAP1.out ?_)
                      | (at_builtin; refine wpList_append_run rfl (.tmp 208) (.tmp 210) 61 61 rfl rfl rfl rfl HAP2.out ?_)
                      | (at_builtin; refine wpList_append_run rfl (.tmp 212) (.tmp 222) 22 22 rfl rfl rfl rfl HAP3.out ?_))
                    go_roundw
                    case rel => exact ⟨t + 1, m + 1, snoc f m y, snoc nn m (N t), snoc pa m (wC.heap.size + 1 + 1), snoc la m p4, snoc lb m r4, by omega, by go_num, by omega, snoc_bound HNN.out (by omega), HSTF.out, H27F.out, H28F.out, H29F.out, H17F.out, HBF.out⟩
                    case measure => simp [intOf]; omega
              · obtain rfl : t = L2 := by omega
                go_wp2
                go_meet
                exact ⟨m, f, nn, pa, la, lb, hmt, hnn, hst, h27, h28, h29, h17, hb⟩
        case rest =>
          obtain ⟨w6, hw6⟩ : ∃ w6, w6 = wc := ⟨_, rfl⟩
          subst hw6
          obtain ⟨m, f, nn, pa, la, lb, hm, hnn, hst6, h27, h28, h29, h17, hb6⟩ := hcut
          obtain ⟨ka, kc, rfl, hka⟩ := vec_slice h27
          obtain ⟨pp, pc, rfl, hpp⟩ := vec_slice h28
          obtain ⟨aa, ac, rfl, haa⟩ := vec_slice h29
          have HKA := hid hka
          have HPP := hid hpp
          have HAA := hid haa
          have HNN := hid hnn
          have HST6 := hid hst6
          have H27 := hid h27
          have H28 := hid h28
          have H29 := hid h29
          have H17 := hid h17
          have HB6 := hid hb6
          clear hka hpp haa hnn hst6 h27 h28 h29 h17 hb6 HST5 HV5 HB5 HA2 HX2
          go_upto_block 8 with fail
          go_cut [34, 35, 227, 37, 38, 39] from 227 to 256 (fun ri rv _ _ _ _ wx => ∃ (R : Nat) (rid : Nat → Nat) (rl : Nat → Int) (rt : Nat → Nat), R ≤ L3 ∧ ST wx w.heap.size eb e5 (mkD I ids mask L1 bw m f nn pa la lb R rid rl rt) ∧ Vec wx w6.heap.size 42 1 ri R (fun i => idv (rid i)) ∧ Vec wx w.heap.size 76 2 rv R (af2 rl rt) ∧ Vec wx w.heap.size 65 2 (.slice ka m kc) m (kf2 f nn) ∧ Vec wx w.heap.size 67 1 (.slice pp m pc) m (ptr pa) ∧ Vec wx w.heap.size 3 1 (.slice aa m ac) m (fun j => iv (la j + lb j)) ∧ Vec wx w.heap.size 42 1 (.slice va I vc) I (fun i => idv (ids i)) ∧ Below w.heap.size w wx)
          case first =>
            as_aux_lemma =>
              go_wp2_with fail
              go_loopw [227, 34, 35, 37, 38, 39] (fun i ri rv _ _ _ wr => ∃ (t R : Nat) (rid : Nat → Nat) (rl : Nat → Int) (rt : Nat → Nat), t ≤ L3 ∧ i = .int .i64 t ∧ R ≤ t ∧ w6.heap.size ≤ wr.heap.size ∧ ST wr w.heap.size eb e5 (mkD I ids mask L1 bw m f nn pa la lb R rid rl rt) ∧ Vec wr w6.heap.size 42 1 ri R (fun i => idv (rid i)) ∧ Vec wr w.heap.size 76 2 rv R (af2 rl rt) ∧ Vec wr w.heap.size 65 2 (.slice ka m kc) m (kf2 f nn) ∧ Vec wr w.heap.size 67 1 (.slice pp m pc) m (ptr pa) ∧ Vec wr w.heap.size 3 1 (.slice aa m ac) m (fun j => iv (la j + lb j)) ∧ Vec wr w.heap.size 42 1 (.slice va I vc) I (fun i => idv (ids i)) ∧ Below w.heap.size w wr) (fun i _ _ _ _ _ _ => L3 - (intOf i).toNat)
              case atStart => exact ⟨0, 0, fun _ => 0, fun _ => 0, fun _ => 0, Nat.zero_le _, rfl, Nat.le_refl _, Nat.le_refl _, HST6.out, Vec.nil _ _ _ _ _, Vec.nil _ _ _ _ _, H27.out, H28.out, H29.out, H17.out, HB6.out⟩
              case round =>
                obtain ⟨t, R, rid, rl, rt, ht, rfl, hRt, hsz, hst, h34, h35, h27, h28, h29, h17, hb⟩ := hrel
                by_cases htn : t < L3
                · obtain rfl := HA3.out (by omega)
                  obtain ⟨x0, x1, x2⟩ := HX3.out t htn
                  have y0 : wr.cell? ⟨b3, o3 + t * 3, none⟩ = some (.int .u32 (ID t : Int)) := (hb.cell (World.block_lt_of_cell? w _ x0)).trans x0
                  have y1 : wr.cell? ⟨b3, o3 + t * 3 + 1, none⟩ = some (.int .i64 (LK t)) := (hb.cell (World.block_lt_of_cell? w _ x1)).trans x1
                  have y2 : wr.cell? ⟨b3, o3 + t * 3 + 2, none⟩ = some (.int .u64 (LT t : Int)) := (hb.cell (World.block_lt_of_cell? w _ x2)).trans x2
                  clear x0 x1 x2
                  obtain ⟨y, hy6, hye⟩ : ∃ y : Nat, y < 6 ∧ ((ID t : Int) % 6) = (y : Int) := ⟨ID t % 6, by omega, by omega⟩
                  obtain ⟨ra, rc, rfl, _⟩ := vec_slice h34
                  obtain ⟨sa, sc, rfl, _⟩ := vec_slice h35
                  have HST := hid hst
                  have H34 := hid h34
                  have H35 := hid h35
                  have K27 := hid h27
                  have K28 := hid h28
                  have K29 := hid h29
                  have K17 := hid h17
                  have HB := hid hb
                  clear hst h34 h35 h27 h28 h29 h17 hb
                  go_upto_region 50 with fail
                  refine wp_gen (fun wA hwA => ?_)
                  have hkA : Kept [] wr wA := by rw [hwA]; exact (Kept.refl _ wr).alloc _
                  have rbx : wA.rowIs wr.heap.size 74 3 (fun i => if i = 0 then .int .u32 (ID t : Int) else if i = 1 then .int .i64 (LK t) else .int .u64 (LT t : Int)) := by
                    rw [hwA]
                    exact alloc3 _ _ _ _ _
                  clear hwA y0 y1 y2
                  have HCON := hid (contains13 w6.heap.size R y rid _ wA (hkA.vec H34.out (by simp)) (by omega))
                  have k1 : wA.cell? ⟨wr.heap.size, 1, none⟩ = some (.int .i64 (LK t)) := rbx.cell (i := 1) (by omega)
                  have k2 : wA.cell? ⟨wr.heap.size, 2, none⟩ = some (.int .u64 (LT t : Int)) := rbx.cell (i := 2) (by omega)
                  have HKA' := hid hkA
                  clear hkA rbx
                  go_upto_region 52 with (go_at_call 13; refine HCON.out.mono ?_; rintro x wC ⟨hC, rfl⟩; rcases hC with ⟨hex, rfl⟩ | ⟨hno, rfl⟩)
                  · have hkC := HKA'.out
                    go_wp2_with fail
                    go_roundw
                    case rel => exact ⟨t + 1, R, rid, rl, rt, by omega, by go_num, by omega, Nat.le_trans hsz hkC.size, HST.out.quiet hkC, hkC.vec H34.out (by simp), hkC.vec H35.out (by simp), hkC.vec K27.out (by simp), hkC.vec K28.out (by simp), hkC.vec K29.out (by simp), hkC.vec K17.out (by simp), HB.out.trans (hkC.below HB.out.size (by simp))⟩
                    case measure => simp [intOf]; omega
                  · refine wp_gen (fun wD hwD => ?_)
                    have hkD : Kept [] wr wD := by rw [hwD]; exact HKA'.out.alloc _
                    have rvb : wD.rowIs wC.heap.size 76 2 (fun i => if i = 0 then .int .i64 (LK t) else .int .u64 (LT t : Int)) := by
                      rw [hwD]
                      exact alloc2 _ _ _ _
                    clear hwD k1 k2 HCON
                    have hstD := HST.out.quiet hkD
                    have d12 : wD.cell? ⟨eb, 12, none⟩ = some (.map (some e5.ar)) := hstD.hE.c12
                    have hk0 : wD.cell? ⟨wC.heap.size, 0, none⟩ = some (.int .i64 (LK t)) := rvb.cell (i := 0) (by omega)
                    have hk1 : wD.cell? ⟨wC.heap.size, 1, none⟩ = some (.int .u64 (LT t : Int)) := rvb.cell (i := 1) (by omega)
                    have hszD := hkD.size
                    obtain ⟨wE, hup, b1', c1', w1', hap1, rvE, b2', c2', w2', hap2, hstF, h27F, h28F, h29F, h17F, h34F, h35F, _, hszF, hbF⟩ := hstD.arr (hkD.vec K27.out (by simp)) (hkD.vec K28.out (by simp)) (hkD.vec K29.out (by simp)) (hkD.vec K17.out (by simp)) (hkD.vec H34.out (by simp)) _ (hkD.vec H35.out (by simp)) (fun x hx => (World.ownsRow.lt H17.out x hx).2) HB6.out.size y (LK t) (LT t) wC.heap.size (af2 (snoc rl R (LK t)) (snoc rt R (LT t))) hy6 hno rvb (fun j hj => af2_snoc_lt hj) (fun j hj => af2_snoc_eq hj) (by omega) (by omega) HBM5.out.2.2.2 HEF5.out.2.2.2.2
                    have hbF' : Below w.heap.size w w2' := hbF w (HB.out.trans (hkD.below HB.out.size (by simp)))
                    have g0 : w1'.cell? ⟨wC.heap.size, 0, none⟩ = some (.int .i64 (LK t)) := rvE.cell (i := 0) (by omega)
                    have g1 : w1'.cell? ⟨wC.heap.size, 1, none⟩ = some (.int .u64 (LT t : Int)) := rvE.cell (i := 1) (by omega)
                    unfold idv av at hup
                    have HAP1 := hid hap1
                    have HAP2 := hid hap2
                    have HSTF := hid hstF
                    have H27F := hid h27F
                    have H28F := hid h28F
                    have H29F := hid h29F
                    have H17F := hid h17F
                    have H34F := hid h34F
                    have H35F := hid h35F
                    have HBF := hid hbF'
                    have HSZF : Hid (w6.heap.size ≤ w2'.heap.size) := Nat.le_trans hsz (Nat.le_trans hszD hszF)
                    clear hkD rvb hstD hap1 rvE hap2 hstF h27F h28F h29F h17F h34F h35F hbF hbF' hszF hszD hno
                    go_region
                    go_wp2_with (first
                      | (at_builtin; refine wpList_append_run rfl (.tmp 248) (.tmp 250) 56 56 rfl rfl rfl rfl HAP1.out ?_)
                      | (at_builtin; refine wpList_append_run rfl (.tmp 252) (.tmp 254) 72 72 rfl rfl rfl rfl HAP2.out ?_))
                    go_roundw
                    case rel => exact ⟨t + 1, R + 1, snoc rid R y, snoc rl R (LK t), snoc rt R (LT t), by omega, by go_num, by omega, HSZF.out, HSTF.out, H34F.out, H35F.out, H27F.out, H28F.out, H29F.out, H17F.out, HBF.out⟩
                    case measure => simp [intOf]; omega
                · obtain rfl : t = L3 := by omega
                  go_wp2
                  go_meet
                  exact ⟨R, rid, rl, rt, hRt, hst, h34, h35, h27, h28, h29, h17, hb⟩
          case rest =>
            obtain ⟨w7, hw7⟩ : ∃ w7, w7 = wc := ⟨_, rfl⟩
            subst hw7
            obtain ⟨R, rid, rl, rt, hR, hst7, h34, h35, h27, h28, h29, h17, hb7⟩ := hcut
            obtain ⟨ra, rc, rfl, hra⟩ := vec_slice h34
            obtain ⟨sa, sc, rfl, hsa⟩ := vec_slice h35
            obtain ⟨D, hD⟩ : ∃ D, D = mkD I ids mask L1 bw m f nn pa la lb R rid rl rt := ⟨_, rfl⟩
            obtain ⟨b, hsb, hb64, hbs⟩ := slot_bit I ids fr s D (by rw [hD]; rfl) (by rw [hD]; rfl) hI6 HSF.out
            obtain ⟨g, hg⟩ := gone_ex D fr
            have c17 := hst7.hE.c17
            have g17 := hst7.hE.fz 17
            have hst8 := hst7.put_ent ent
            have hb8 : Below w.heap.size w (w7.setCell ⟨eb, 17, none⟩ (.int .i64 ent)) := hb7.setCell hBe _
            rw [← hD] at hst8
            have hend := ended_any eb w.heap.size fr n b g { e5 with ent := ent } D (w7.setCell ⟨eb, 17, none⟩ (.int .i64 ent)) hst8 hBe (by omega) hsb hg (fun i => by rw [hD]; rfl) (fun i => by rw [hD]; rfl) (fun i => by rw [hD]; rfl) (fun i => by rw [hD]; rfl) HEF5.out.2.2.2.1 (by rw [hD]; rfl) HEF5.out.2.2.2.2
              (by rw [hD]; show L1 ≤ 4096; omega) (by rw [hD]; show R ≤ 4096; omega) (fun r => by rw [hD]; show bw r < 64; rw [HBW.out r]; exact Nat.lt_of_le_of_lt Nat.and_le_right hm64) (by rw [hD]; exact hm64) (by rw [hD]; exact HNN.out) HENT.out
            have k34 := hst7.ent_vec h34 (by decide) (.int .i64 ent)
            have k35 := hst7.ent_vec h35 (by decide) (.int .i64 ent)
            have k27 := hst7.ent_vec h27 (by decide) (.int .i64 ent)
            have k28 := hst7.ent_vec h28 (by decide) (.int .i64 ent)
            have k29 := hst7.ent_vec h29 (by decide) (.int .i64 ent)
            have k17 := hst7.ent_vec h17 (by decide) (.int .i64 ent)
            have HRA := hid hra
            have HSA := hid hsa
            have HD := hid hD
            have HBS := hid hbs
            have HG := hid hg
            have HST8 := hid hst8
            have HB8 := hid hb8
            have HEND := hid hend
            have J34 := hid k34
            have J35 := hid k35
            have J27 := hid k27
            have J28 := hid k28
            have J29 := hid k29
            have J17 := hid k17
            clear hra hsa hD hsb hbs hg hst8 hb8 hend k34 k35 k27 k28 k29 k17 hst7 h34 h35 h27 h28 h29 h17 hb7 H27 H28 H29 H17 HB6 HST6 HA3 HX3
            go_upto_region 58 with (go_at_call 15; refine HEND.out.mono ?_; rintro x w9 ⟨rfl, h9⟩; have HP := hid h9; clear h9)
            obtain ⟨fl, fv, hst9, hperm, hk9⟩ := HP.out
            clear HP HEND c17 g17
            have hb9 : Below w.heap.size w w9 := HB8.out.trans (HST8.out.after_below hk9 HB8.out.size hBe HBM5.out)
            have K34 := hid (HST8.out.after hk9 J34.out (by decide) (by decide))
            have K35 := hid (HST8.out.after hk9 J35.out (by decide) (by decide))
            have K27 := hid (HST8.out.after hk9 J27.out (by decide) (by decide))
            have K28 := hid (HST8.out.after hk9 J28.out (by decide) (by decide))
            have K29 := hid (HST8.out.after hk9 J29.out (by decide) (by decide))
            have K17 := hid (HST8.out.after hk9 J17.out (by decide) (by decide))
            obtain rfl := HD.out
            obtain ⟨e9, he9⟩ : ∃ e9 : EV, e9 = { ({ e5 with ent := ent } : EV) with free := fv, ent := IntKind.i64.wrap (ent - ((cnt L1 (fun r => hadF (bw r) b) + tot m (delL f nn fr n g) (fun j => la j + lb j) : Nat) : Int)) } := ⟨_, rfl⟩
            have hst9' : ST w9 w.heap.size eb e9 (endD (mkD I ids mask L1 bw m f nn pa la lb R rid rl rt) fr n b g fl) := by
              rw [he9]
              exact hst9
            have hfin := fin_of hst9' (by rw [he9]; exact HEF5.out.1) (by rw [he9]; exact HEF5.out.2.1) (by rw [he9]; exact HEF5.out.2.2.1) (by rw [he9]; exact HEF5.out.2.2.2.1)
            have HE9 : Hid (e9.ent = IntKind.i64.wrap (ent - ((cnt L1 (fun r => hadF (bw r) b) + tot m (delL f nn fr n g) (fun j => la j + lb j) : Nat) : Int))) := by rw [he9]; exact rfl
            have HG' : Hid (GoneL R rid rl fr g) := HG.out
            have HPERM : Hid (fl.Perm ((List.range L1).filter (fun r => freed (bw r) b))) := hperm
            have HAS : Hid (∀ j, j < m → la j + lb j ≤ 6) := fun j hj => by
              obtain ⟨h1, h2, _⟩ := hst9'.has j hj
              have h1' : la j < 4 := h1
              have h2' : lb j < 4 := h2
              omega
            have HFIN := hid hfin
            have HB9 := hid hb9
            clear hst9 hst9' hfin hperm hk9 hb9 he9 J34 J35 J27 J28 J29 J17 HST8 HB8 HG HD HEF5 HBM5 HNN HSF
            go_upto_block 10 with fail
            go_cut [41, 267, 42, 43, 44, 45] from 267 to 294 (fun c _ _ _ _ _ wx => c = .int .i64 (cnt I (fun i => !decide (ids i = fr)) : Nat) ∧ w9 = wx)
            case first =>
              as_aux_lemma =>
                go_wp2_with fail
                go_loopw [267, 41, 42, 43, 44, 45] (fun i c _ _ _ _ wr => ∃ t : Nat, t ≤ I ∧ i = .int .i64 t ∧ c = .int .i64 (cnt t (fun i => !decide (ids i = fr)) : Nat) ∧ w9 = wr) (fun i _ _ _ _ _ _ => I - (intOf i).toNat)
                case atStart => exact ⟨0, Nat.zero_le _, rfl, rfl, rfl⟩
                case round =>
                  obtain ⟨t, ht, rfl, rfl, rfl⟩ := hrel
                  by_cases htn : t < I
                  · obtain ⟨q, rfl⟩ := HVA.out (by omega)
                    have cI : w9.cell? ⟨q, t, none⟩ = some (.int .u32 (ids t : Int)) := K17.out.cell (by omega)
                    have c4 := HFIN.out.hE.c4
                    have hlk := IX.look k42 Yba.underlying44 (zero3 w9) HFIN.out.inc htn
                    have hcs := cnt_succ t (fun i => !decide (ids i = fr))
                    have hcl := cnt_le t (fun i => !decide (ids i = fr))
                    unfold idv iv at hlk
                    by_cases hef : ids t = fr
                    · have e1 : ((ids t : Int) == (fr : Int)) = true := by simp [hef]
                      rw [show (!decide (ids t = fr)) = false by simp [hef]] at hlk hcs
                      rw [if_neg (by simp)] at hlk hcs
                      have HCS := hid hcs
                      clear hef hcs hcl
                      go_wp2
                      go_roundw
                      case rel => exact ⟨t + 1, by omega, by go_num, by rw [HCS.out]; rfl, trivial⟩
                      case measure => simp [intOf]; omega
                    · have e1 : ((ids t : Int) == (fr : Int)) = false := by simp; omega
                      rw [show (!decide (ids t = fr)) = true by simp [hef]] at hlk hcs
                      rw [if_pos rfl] at hlk hcs
                      have HCS := hid hcs
                      have HCL := hid hcl
                      clear hef hcs hcl
                      go_wp2
                      go_roundw
                      case rel => exact ⟨t + 1, by omega, by go_num, by rw [HCS.out]; exact snoc_i64 _ (by have := HCL.out; omega), trivial⟩
                      case measure => simp [intOf]; omega
                  · obtain rfl : t = I := by omega
                    go_wp2
                    go_meet
                    exact ⟨rfl, rfl⟩
            case rest =>
              obtain ⟨rfl, rfl⟩ := hcut
              have hlen := fun ty => IX.len k42 Yba.underlying44 HFIN.out.inc ty
              have c4 := HFIN.out.hE.c4
              go_upto_if 303 with fail
              clear hlen c4
              go_cut [46, 303] from 303 to 306 (fun v _ wx => v = .int .u64 (b : Int) ∧ w9 = wx)
              case first =>
                as_aux_lemma =>
                  rcases HBS.out with ⟨i, hi6, rfl, rfl⟩ | ⟨rfl, rfl⟩
                  · have q1 := wrap_pow i hi6
                    go_wp2
                    go_meet
                    have q2 : ((2 ^ i : Nat) : Int) = 2 ^ i := by rw [Int.natCast_pow]; rfl
                    exact ⟨by rw [q2], rfl⟩
                  · go_wp2
                    go_meet
                    exact ⟨rfl, rfl⟩
              case rest =>
                obtain ⟨rfl, rfl⟩ := hcut
                obtain ⟨sb9, sc9, hsv9⟩ : ∃ sb9 sc9, e9.slots = .slice (some ⟨sb9, 0, none⟩) 1 sc9 := by
                  rcases HFIN.out.slots.shape with ⟨_, h0⟩ | ⟨x, y, h, _⟩
                  · cases h0
                  · exact ⟨x, y, h⟩
                have hS9 := HFIN.out.slots
                rw [hsv9] at hS9
                have s0 : w9.cell? ⟨sb9, 0, none⟩ = some (.int .u64 ((mask &&& (18446744073709551615 - b) : Nat) : Int)) := hS9.cell (j := 0) (by omega)
                have c9 := HFIN.out.hE.c9
                rw [hsv9] at c9
                have c8 := HFIN.out.hE.c8
                rw [HFIN.out.words] at c8
                obtain ⟨ba, bc, hbv9, hba⟩ := vec_slice HFIN.out.bits
                have c6 := HFIN.out.hE.c6
                rw [hbv9] at c6
                have q1 : bits .andNot .u64 (mask : Int) (b : Int) = ((mask &&& (18446744073709551615 - b) : Nat) : Int) := u64_andNot_nat _ _ (by omega) (by omega)
                have HBV9 := hid hbv9
                have HBA := hid hba
                clear hsv9 hS9 hbv9 hba
                go_upto_block 12 with fail
                clear s0 c9 c8 c6 q1
                go_cut [40, 47, 48, 346, 49, 50, 51, 52, 53, 54, 55] from 346 to 406 (fun d rel rc' _ _ _ _ _ _ _ _ wx => d = .int .i64 (cnt L1 (fun r => hadF (bw r) b) : Nat) ∧ rc' = .int .i64 (cnt L1 (fun r => !(freed (bw r) b)) : Nat) ∧ Vec wx w9.heap.size 3 1 rel ((List.range L1).filter (fun r => freed (bw r) b)).length (lf ((List.range L1).filter (fun r => freed (bw r) b))) ∧ Below w9.heap.size w9 wx)
                case first =>
                  as_aux_lemma =>
                    go_wp2_with fail
                    go_loopw [346, 40, 47, 48, 49, 50, 51, 52, 53, 54, 55] (fun i d rel rc' _ _ _ _ _ _ _ wr => ∃ t : Nat, t ≤ L1 ∧ i = .int .i64 t ∧ d = .int .i64 (cnt t (fun r => hadF (bw r) b) : Nat) ∧ rc' = .int .i64 (cnt t (fun r => !(freed (bw r) b)) : Nat) ∧ Vec wr w9.heap.size 3 1 rel ((List.range t).filter (fun r => freed (bw r) b)).length (lf ((List.range t).filter (fun r => freed (bw r) b))) ∧ Below w9.heap.size w9 wr) (fun i _ _ _ _ _ _ _ _ _ _ _ => L1 - (intOf i).toNat)
                    case atStart => exact ⟨0, Nat.zero_le _, rfl, rfl, rfl, Vec.nil _ _ _ _ _, Below.refl _ _⟩
                    case round =>
                      obtain ⟨t, ht, rfl, rfl, rfl, hv, hb⟩ := hrel
                      by_cases htn : t < L1
                      · obtain rfl := HA1.out (by omega)
                        have hb0 : Below w.heap.size w wr := HB9.out.trans (below_le hb HB9.out.size)
                        have cX : wr.cell? ⟨b1, o1 + t, none⟩ = some (.int .u64 (X1 t : Int)) := by
                          have := (HX1.out t htn).1
                          rw [hb0.cell (World.block_lt_of_cell? w _ this)]
                          exact this
                        have hfin := HFIN.out.quiet (Kept.of_below hb)
                        obtain ⟨bb, rfl⟩ := HBA.out (by omega)
                        have c6 := hfin.hE.c6
                        rw [HBV9.out] at c6
                        have hbits := hfin.bits
                        rw [HBV9.out] at hbits
                        have cB : wr.cell? ⟨bb, t, none⟩ = some (.int .u64 ((dropF (bw t) b : Nat) : Int)) := hbits.cell (by omega)
                        have c5 := hfin.hE.c5
                        have hlk := IX.look k59 Yba.underlying45 (zero3 wr) hfin.rm htn
                        unfold kv iv at hlk
                        rw [show ((1 : Nat) : Int) = 1 from rfl] at hlk
                        have hbw64 : bw t < 64 := by rw [HBW.out t]; exact Nat.lt_of_le_of_lt Nat.and_le_right hm64
                        have q1 : bits .and .u64 (X1 t : Int) (mask : Int) = (bw t : Int) := by rw [HBW.out t]; exact u64_and_nat _ _ (HX1.out t htn).2 (by omega)
                        have q2 : bits .and .u64 (bw t : Int) (b : Int) = ((bw t &&& b : Nat) : Int) := u64_and_nat _ _ (by omega) (by omega)
                        have hs1 := cnt_succ t (fun r => hadF (bw r) b)
                        have hs2 := cnt_succ t (fun r => !(freed (bw r) b))
                        have hl1 := cnt_le t (fun r => hadF (bw r) b)
                        have hl2 := cnt_le t (fun r => !(freed (bw r) b))
                        have hfs : (List.range (t + 1)).filter (fun r => freed (bw r) b) = (List.range t).filter (fun r => freed (bw r) b) ++ (if freed (bw t) b then [t] else []) := by
                          rw [List.range_succ, List.filter_append]
                          cases h : freed (bw t) b <;> simp [h]
                        obtain ⟨l, hl⟩ : ∃ l, l = (List.range t).filter (fun r => freed (bw r) b) := ⟨_, rfl⟩
                        have hll : l.length ≤ t := by rw [hl]; exact cnt_le t _
                        rw [← hl] at hfs hv
                        obtain ⟨la', lc', rfl, _⟩ := vec_slice hv
                        have HV := hid hv
                        have HB := hid hb
                        have HL1 := hid hl1
                        have HL2 := hid hl2
                        clear hb0 hfin hbits hl1 hl2 hl hb
                        by_cases hh : bw t &&& b = 0
                        · have e1 : (((bw t &&& b : Nat) : Int) != 0) = false := by rw [hh]; rfl
                          have hhad : hadF (bw t) b = false := by unfold hadF; simp [hh]
                          have hfr : freed (bw t) b = false := by unfold freed; rw [hhad]; rfl
                          have hdr : dropF (bw t) b = bw t := by unfold dropF; simp [hh]
                          rw [hdr] at cB
                          rw [hfr] at hlk hfs hs2
                          rw [hhad] at hs1
                          simp only [Bool.not_false, if_pos] at hlk hs2
                          simp only [Bool.false_eq_true, if_false, List.append_nil, Nat.add_zero] at hfs hs1
                          have HS1 := hid hs1
                          have HS2 := hid hs2
                          have HFS := hid hfs
                          clear hs1 hs2 hfs hh hhad hfr hdr hv
                          as_aux_lemma =>
                            go_wp2
                            go_roundw
                            case rel => exact ⟨t + 1, by omega, by go_num, by rw [HS1.out], by rw [HS2.out]; exact snoc_i64 _ (by have := HL2.out; omega), by rw [HFS.out]; exact HV.out, HB.out⟩
                            case measure => simp [intOf]; omega
                        · have e1 : (((bw t &&& b : Nat) : Int) != 0) = true := by simp; omega
                          have hhad : hadF (bw t) b = true := by unfold hadF; simp [hh]
                          obtain ⟨y, hy⟩ : ∃ y, y = bw t &&& (18446744073709551615 - b) := ⟨_, rfl⟩
                          have q3 : bits .andNot .u64 (bw t : Int) (b : Int) = (y : Int) := by rw [hy]; exact u64_andNot_nat _ _ (by omega) (by omega)
                          have hdr : dropF (bw t) b = y := by unfold dropF; rw [if_pos hh, hy]
                          rw [hdr] at cB
                          rw [hhad, if_pos rfl] at hs1
                          have HS1 := hid hs1
                          clear hs1 hh hy
                          by_cases hy0 : y = 0
                          · have hfr : freed (bw t) b = true := by unfold freed; rw [hhad, hdr, hy0]; rfl
                            rw [hfr] at hlk hfs hs2
                            rw [hy0] at cB q3
                            simp only [Bool.not_true, Bool.false_eq_true, if_false, Nat.add_zero] at hlk hs2
                            simp only [if_true] at hfs
                            rw [show ((0 : Nat) : Int) = 0 from rfl] at cB q3
                            obtain ⟨b3', cap3', w3', hap, hV3, hgr3, _⟩ := app1 wr w9.heap.size 22 3 _ 1 8 Yba.underlying22 info3 rfl (by decide) _ l.length _ (lf (l ++ [t])) hv #[.int .i64 (t : Int)] rfl (fun j hj => by (obtain rfl : j = 0 := by omega); rfl) (fun j hj => lf_app (by omega)) (fun j hj => by (obtain rfl : j = 0 := by omega); rw [Nat.mul_one, Nat.add_zero]; exact lf_last) (by omega) (by decide) HB.out.size
                            have hb3 : Below w9.heap.size w9 w3' := HB.out.grown hgr3 HB.out.size (fun q hq => (World.ownsRow.lt hv q hq).1)
                            have HAP := hid hap
                            have HV3 := hid hV3
                            have HB3 := hid hb3
                            have HS2 := hid hs2
                            have HFS := hid hfs
                            clear hs2 hfs hhad hfr hdr hv hap hV3 hgr3 hb3 hy0
                            as_aux_lemma =>
                              go_wp2_with (at_builtin; refine wpList_append_run rfl (.tmp 393) (.tmp 395) 22 22 rfl rfl rfl rfl HAP.out ?_)
                              go_roundw
                              case rel => exact ⟨t + 1, by omega, by go_num, by rw [HS1.out]; exact snoc_i64 _ (by have := HL1.out; omega), by rw [HS2.out], by rw [HFS.out, List.length_append]; exact HV3.out, HB3.out⟩
                              case measure => simp [intOf]; omega
                          · have hfr : freed (bw t) b = false := by unfold freed; rw [hhad, hdr]; simp [hy0]
                            have e2 : ((y : Int) == 0) = false := by simp; omega
                            rw [hfr] at hlk hfs hs2
                            simp only [Bool.not_false, if_pos] at hlk hs2
                            simp only [Bool.false_eq_true, if_false, List.append_nil] at hfs
                            have HS2 := hid hs2
                            have HFS := hid hfs
                            clear hs2 hfs hhad hfr hdr hv hy0
                            as_aux_lemma =>
                              go_wp2
                              go_roundw
                              case rel => exact ⟨t + 1, by omega, by go_num, by rw [HS1.out]; exact snoc_i64 _ (by have := HL1.out; omega), by rw [HS2.out]; exact snoc_i64 _ (by have := HL2.out; omega), by rw [HFS.out]; exact HV.out, HB.out⟩
                              case measure => simp [intOf]; omega
                      · obtain rfl : t = L1 := by omega
                        go_wp2
                        go_meet
                        exact ⟨rfl, rfl, hv, hb⟩
                case rest =>
                  obtain ⟨w10, hw10⟩ : ∃ w10, w10 = wc := ⟨_, rfl⟩
                  subst hw10
                  obtain ⟨rfl, rfl, hv10, hb10⟩ := hcut
                  have hfin := HFIN.out.quiet (Kept.of_below hb10)
                  have hflen : fl.length ≤ 4096 := by
                    rw [HPERM.out.length_eq]
                    have := cnt_le L1 (fun r => freed (bw r) b)
                    unfold cnt at this
                    omega
                  have hcse := clone_sort_equal w.heap.size w9.heap.size fl _ e9.free _ w10 hfin.free hv10 hflen HPERM.out (filter_asc _ _)
                  have hlen := fun ty => IX.len k59 Yba.underlying45 hfin.rm ty
                  have c5 := hfin.hE.c5
                  have c7 := hfin.hE.c7
                  obtain ⟨fa, fc, hfv, _⟩ := vec_slice hfin.free
                  rw [hfv] at c7 hcse
                  obtain ⟨va10, vc10, rfl, _⟩ := vec_slice hv10
                  have HCSE := hid hcse
                  have HB10 := hid hb10
                  have hb910 : Below w.heap.size w w10 := HB9.out.trans (below_le hb10 HB9.out.size)
                  have HFIN10 := hid hfin
                  have HB910 := hid hb910
                  have L34 := hid (vec_grow K34.out hb10)
                  have L35 := hid (vec_grow K35.out hb10)
                  have L27 := hid (vec_grow K27.out hb10)
                  have L28 := hid (vec_grow K28.out hb10)
                  have L29 := hid (vec_grow K29.out hb10)
                  clear hcse hb10 hfin hv10 hfv hb910 hflen HFIN K34 K35 K27 K28 K29 K17 HPERM HB9 HBV9 HBA HBS HA1 HX1
                  go_upto_block 14 with (first
                    | (go_at_call 18; refine H18.out.mono ?_; rintro x w13 ⟨rfl, h13⟩; have HB13 := hid h13; clear h13)
                    | (go_at_call 17; refine H17'.out.mono ?_; rintro x w12 ⟨rfl, h12⟩; have H18 := hid h12; clear h12)
                    | (go_at_call 16; refine HCSE.out.mono ?_; rintro x w11 ⟨v11, rfl, h11⟩; have H17' := hid h11; clear h11))
                  have HFIN13 := hid (HFIN10.out.quiet (Kept.of_below HB13.out))
                  have M34 := hid (vec_grow L34.out HB13.out)
                  have M35 := hid (vec_grow L35.out HB13.out)
                  have M27 := hid (vec_grow L27.out HB13.out)
                  have M28 := hid (vec_grow L28.out HB13.out)
                  have M29 := hid (vec_grow L29.out HB13.out)
                  have HBW13 : Hid (Below w.heap.size w w13) := HB910.out.trans (below_le HB13.out HB910.out.size)
                  clear hlen c5 c7 HFIN10 L34 L35 L27 L28 L29 HB910 HB13 HCSE H17' H18 HB10
                  go_cut [57, 58, 429, 59, 60, 61, 62, 63, 64] from 429 to 492 (fun ad c _ _ _ _ _ _ _ wx => ad = .bool g ∧ c = .int .i64 (cnt R (mvL rid fr g) : Nat) ∧ Below w13.heap.size w13 wx)
                  case first =>
                    as_aux_lemma =>
                      go_wp2_with fail
                      go_loopw [429, 57, 58, 59, 60, 61, 62, 63, 64] (fun i ad c _ _ _ _ _ _ wr => ∃ (t : Nat) (d : Bool), t ≤ R ∧ i = .int .i64 t ∧ ad = .bool d ∧ AD rid fr g t d ∧ c = .int .i64 (cnt t (mvL rid fr g) : Nat) ∧ Below w13.heap.size w13 wr) (fun i _ _ _ _ _ _ _ _ _ => R - (intOf i).toNat)
                      case atStart => exact ⟨0, false, Nat.zero_le _, rfl, rfl, AD.zero _ _ _, rfl, Below.refl _ _⟩
                      case round =>
                        obtain ⟨t, d, ht, rfl, rfl, hd, rfl, hb⟩ := hrel
                        by_cases htn : t < R
                        · obtain ⟨q, rfl⟩ := HRA.out (by omega)
                          obtain ⟨q', rfl⟩ := HSA.out (by omega)
                          have hfin := HFIN13.out.quiet (Kept.of_below hb)
                          have h34 := vec_grow M34.out hb
                          have h35 := vec_grow M35.out hb
                          have cI : wr.cell? ⟨q, t, none⟩ = some (.int .u32 (rid t : Int)) := h34.cell (by omega)
                          have c12 := hfin.hE.c12
                          have hlk := IX.look k42 Yba.underlying50 (zero76 wr) hfin.ar htn
                          have hcs := cnt_succ t (mvL rid fr g)
                          have hcl := cnt_le t (mvL rid fr g)
                          unfold idv av at hlk
                          have HB := hid hb
                          have HDD := hid hd
                          have HCL := hid hcl
                          clear hcl hd hb
                          by_cases hef : rid t = fr
                          · have hgt : g = decide (¬ 0 < wrap64 (rl t - 1)) := by
                              rcases HG'.out with ⟨k, hk, h1, h2⟩ | ⟨h1, _⟩
                              · obtain rfl : k = t := ix_inj hfin.ar hk htn (by rw [h1, hef])
                                exact h2
                              · exact absurd hef (h1 t htn)
                            have e1 : ((rid t : Int) != (fr : Int)) = false := by simp [hef]
                            have d0 : wr.cell? ⟨q', t * 2, none⟩ = some (.int .i64 (rl t)) := by rw [← af2_0 rl rt t]; exact h35.cell (by omega)
                            have d1 : wr.cell? ⟨q', t * 2 + 1, none⟩ = some (.int .u64 (rt t : Int)) := by rw [← af2_1 rl rt t]; exact h35.cell (by omega)
                            have hq'l : q' < wr.heap.size := h35.lt
                            rw [show mvL rid fr g t = !g by simp [mvL, hef]] at hlk hcs
                            rw [if_pos hef, if_pos hef] at hlk
                            obtain ⟨l, hl⟩ : ∃ l, wrap64 (rl t - 1) = l := ⟨_, rfl⟩
                            rw [hl] at hlk hgt
                            have HEQ := hid hef
                            by_cases hl0 : 0 < l
                            · have e2 : decide (0 < l) = true := by simp [hl0]
                              have hg0 : g = false := by rw [hgt]; simp [hl0]
                              rw [show (!g) = true by simp [hg0]] at hlk hcs
                              simp only [if_true] at hlk hcs
                              have HCS := hid hcs
                              have HG0 := hid hg0
                              clear hcs hfin h34 h35 hef hgt hl0 hg0
                              by_cases hmx : rt t < n
                              · have e3 : decide (rt t < n) = true := by simp [hmx]
                                rw [show max (rt t) n = n by omega] at hlk
                                as_aux_lemma =>
                                  go_wp2
                                  go_roundw
                                  case rel => exact ⟨t + 1, d, by omega, by go_num, rfl, HDD.out.skip (fun _ => HG0.out), by rw [HCS.out]; exact snoc_i64 _ (by have := HCL.out; omega), HB.out.alloc HB.out.size _⟩
                                  case measure => simp [intOf]; omega
                              · have e3 : decide (rt t < n) = false := by simp; omega
                                rw [show max (rt t) n = rt t by omega] at hlk
                                as_aux_lemma =>
                                  go_wp2
                                  go_roundw
                                  case rel => exact ⟨t + 1, d, by omega, by go_num, rfl, HDD.out.skip (fun _ => HG0.out), by rw [HCS.out]; exact snoc_i64 _ (by have := HCL.out; omega), HB.out.alloc HB.out.size _⟩
                                  case measure => simp [intOf]; omega
                            · have e2 : decide (0 < l) = false := by simp; omega
                              have hg0 : g = true := by rw [hgt]; simp; omega
                              rw [show (!g) = false by simp [hg0]] at hlk hcs
                              simp only [Bool.false_eq_true, if_false, Nat.add_zero] at hlk hcs
                              have HCS := hid hcs
                              have HG0 := hid hg0
                              clear hcs hfin h34 h35 hef hgt hl0 hg0
                              by_cases hmx : rt t < n
                              · have e3 : decide (rt t < n) = true := by simp [hmx]
                                as_aux_lemma =>
                                  go_wp2
                                  go_roundw
                                  case rel => exact ⟨t + 1, true, by omega, by go_num, rfl, AD.found HEQ.out HG0.out, by rw [HCS.out], HB.out.alloc HB.out.size _⟩
                                  case measure => simp [intOf]; omega
                              · have e3 : decide (rt t < n) = false := by simp; omega
                                as_aux_lemma =>
                                  go_wp2
                                  go_roundw
                                  case rel => exact ⟨t + 1, true, by omega, by go_num, rfl, AD.found HEQ.out HG0.out, by rw [HCS.out], HB.out.alloc HB.out.size _⟩
                                  case measure => simp [intOf]; omega
                          · have e1 : ((rid t : Int) != (fr : Int)) = true := by simp; omega
                            rw [show mvL rid fr g t = true by simp [mvL, hef]] at hlk hcs
                            rw [if_pos rfl] at hlk hcs
                            rw [if_neg hef, if_neg hef] at hlk
                            have d0 : wr.cell? ⟨q', t * 2, none⟩ = some (.int .i64 (rl t)) := by rw [← af2_0 rl rt t]; exact h35.cell (by omega)
                            have d1 : wr.cell? ⟨q', t * 2 + 1, none⟩ = some (.int .u64 (rt t : Int)) := by rw [← af2_1 rl rt t]; exact h35.cell (by omega)
                            have hq'l : q' < wr.heap.size := h35.lt
                            have HNE := hid hef
                            have HCS := hid hcs
                            clear hcs hfin h34 h35 hef
                            as_aux_lemma =>
                              go_upto_region 115 with fail
                              go_quiet (fail)
                              go_wp2
                              go_roundw
                              case rel => exact ⟨t + 1, d, by omega, by go_num, rfl, HDD.out.skip (fun h => absurd h HNE.out), by rw [HCS.out]; exact snoc_i64 _ (by have := HCL.out; omega), below_drewN (HB.out.alloc HB.out.size _) _⟩
                              case measure => simp [intOf]; omega
                        · obtain rfl : t = R := by omega
                          go_wp2
                          go_meet
                          exact ⟨by rw [hd.done HG'.out], rfl, hb⟩
                  case rest =>
                    obtain ⟨w14, hw14⟩ : ∃ w14, w14 = wc := ⟨_, rfl⟩
                    subst hw14
                    obtain ⟨rfl, rfl, hb14⟩ := hcut
                    have hfin := HFIN13.out.quiet (Kept.of_below hb14)
                    have hlen := fun ty => IX.len k42 Yba.underlying50 hfin.ar ty
                    have c12 := hfin.hE.c12
                    have HFIN14 := hid hfin
                    have N27 := hid (vec_grow M27.out hb14)
                    have N28 := hid (vec_grow M28.out hb14)
                    have N29 := hid (vec_grow M29.out hb14)
                    have HBW14 : Hid (Below w.heap.size w w14) := HBW13.out.trans (below_le hb14 HBW13.out.size)
                    clear hfin hb14 HFIN13 M34 M35 M27 M28 M29 HBW13 HG' HRA HSA
                    go_upto_block 16 with fail
                    clear hlen c12
                    go_cut [40, 65, 502, 66, 67, 68, 69] from 502 to 548 (fun d c _ _ _ _ _ wx => d = .int .i64 ((cnt L1 (fun r => hadF (bw r) b) + tot m (delL f nn fr n g) (fun j => la j + lb j) : Nat) : Int) ∧ c = .int .i64 (cnt m (fun j => !(delL f nn fr n g j)) : Nat) ∧ Below w14.heap.size w14 wx)
                    case first =>
                      as_aux_lemma =>
                        go_wp2_with fail
                        go_loopw [502, 40, 65, 66, 67, 68, 69] (fun i d c _ _ _ _ wr => ∃ t : Nat, t ≤ m ∧ i = .int .i64 t ∧ d = .int .i64 ((cnt L1 (fun r => hadF (bw r) b) + tot t (delL f nn fr n g) (fun j => la j + lb j) : Nat) : Int) ∧ c = .int .i64 (cnt t (fun j => !(delL f nn fr n g j)) : Nat) ∧ Below w14.heap.size w14 wr) (fun i _ _ _ _ _ _ _ => m - (intOf i).toNat)
                        case atStart => exact ⟨0, Nat.zero_le _, rfl, rfl, rfl, Below.refl _ _⟩
                        case round =>
                          obtain ⟨t, ht, rfl, rfl, rfl, hb⟩ := hrel
                          by_cases htn : t < m
                          · obtain ⟨qk, rfl⟩ := HKA.out (by omega)
                            obtain ⟨qp, rfl⟩ := HPP.out (by omega)
                            obtain ⟨qa, rfl⟩ := HAA.out (by omega)
                            have h27 := vec_grow N27.out hb
                            have d0 : wr.cell? ⟨qk, t * 2, none⟩ = some (.int .u32 (f t : Int)) := by rw [← kf2_0 f nn t]; exact h27.cell (by omega)
                            have d1 : wr.cell? ⟨qk, t * 2 + 1, none⟩ = some (.int .u64 (nn t : Int)) := by rw [← kf2_1 f nn t]; exact h27.cell (by omega)
                            have HB := hid hb
                            clear hb h27
                            go_upto_region 136 with fail
                            refine wp_gen (fun wA hwA => ?_)
                            have hbA : Below w14.heap.size w14 wA := by rw [hwA]; exact HB.out.alloc HB.out.size _
                            have hX : wA.rowIs wr.heap.size 65 2 (fun i => if i = 0 then .int .u32 (f t : Int) else .int .u64 (nn t : Int)) := by rw [hwA]; exact alloc2 _ _ _ _
                            clear hwA d0 d1
                            have hfin := HFIN14.out.quiet (Kept.of_below hbA)
                            have h28 := vec_grow N28.out hbA
                            have h29 := vec_grow N29.out hbA
                            have k0 : wA.cell? ⟨wr.heap.size, 0, none⟩ = some (.int .u32 (f t : Int)) := hX.cell (i := 0) (by omega)
                            have k1 : wA.cell? ⟨wr.heap.size, 1, none⟩ = some (.int .u64 (nn t : Int)) := hX.cell (i := 1) (by omega)
                            have c11 := hfin.hE.c11
                            have hlk := fun q => IX.look (w := wA.drewN q) k65 Yba.underlying49 (zero67 _) hfin.ac htn
                            unfold lv at hlk
                            have p0 : wA.cell? ⟨qp, t, none⟩ = some (.pointer (some ⟨pa t, 0, none⟩)) := h28.cell (by omega)
                            have a0' : wA.cell? ⟨qa, t, none⟩ = some (.int .i64 ((la t + lb t : Nat) : Int)) := h29.cell (by omega)
                            have hcs := cnt_succ t (fun j => !(delL f nn fr n g j))
                            have hcl := cnt_le t (fun j => !(delL f nn fr n g j))
                            have hts : tot (t + 1) (delL f nn fr n g) (fun j => la j + lb j) = tot t (delL f nn fr n g) (fun j => la j + lb j) + if delL f nn fr n g t then la t + lb t else 0 := rfl
                            have htl := tot_le (m := t) (G := delL f nn fr n g) (buf := fun j => la j + lb j) (fun j hj => HAS.out j (by omega))
                            have hhl := cnt_le L1 (fun r => hadF (bw r) b)
                            have hbl := HAS.out t htn
                            have HBA' := hid hbA
                            have HCL := hid hcl
                            have HTL := hid htl
                            have HHL := hid hhl
                            have HBL := hid hbl
                            obtain ⟨dc, hdc⟩ : ∃ dc, dc = cnt L1 (fun r => hadF (bw r) b) + tot t (delL f nn fr n g) (fun j => la j + lb j) := ⟨_, rfl⟩
                            rw [← hdc]
                            have HDC := hid hdc
                            obtain ⟨bf, hbf⟩ : ∃ bf, bf = la t + lb t := ⟨_, rfl⟩
                            rw [← hbf] at a0' hts
                            have HBF := hid hbf
                            clear hfin h28 h29 hbA hX hcl htl hhl hbl hdc hbf
                            cases hdl : delL f nn fr n g t with
                            | true =>
                              rw [hdl] at hlk hcs hts
                              simp only [Bool.not_true, Bool.false_eq_true, if_false, if_true, Nat.add_zero] at hlk hcs hts
                              have HCS := hid hcs
                              have HTS := hid hts
                              clear hcs hts
                              have h1 : f t = fr := by unfold delL at hdl; simp at hdl; exact hdl.1
                              have e1 : ((f t : Int) == (fr : Int)) = true := by simp [h1]
                              by_cases h2 : nn t ≤ n
                              · have e2 : decide (nn t ≤ n) = true := by simp [h2]
                                clear hdl h1 h2
                                as_aux_lemma =>
                                  go_quiet (fail)
                                  go_wp2
                                  go_roundw
                                  case rel => exact ⟨t + 1, by omega, by go_num, by rw [HTS.out, ← Nat.add_assoc, ← HDC.out]; exact add_i64 _ _ (by have := HTL.out; have := HHL.out; have := HBL.out; have := HDC.out; have := HBF.out; omega), by rw [HCS.out], below_drewN HBA'.out _⟩
                                  case measure => simp [intOf]; omega
                              · have e2 : decide (nn t ≤ n) = false := by simp; omega
                                have hg1 : g = true := by unfold delL at hdl; simp [h1, h2] at hdl; exact hdl
                                clear hdl h1 h2
                                subst hg1
                                as_aux_lemma =>
                                  go_quiet (fail)
                                  go_wp2
                                  go_roundw
                                  case rel => exact ⟨t + 1, by omega, by go_num, by rw [HTS.out, ← Nat.add_assoc, ← HDC.out]; exact add_i64 _ _ (by have := HTL.out; have := HHL.out; have := HBL.out; have := HDC.out; have := HBF.out; omega), by rw [HCS.out], below_drewN HBA'.out _⟩
                                  case measure => simp [intOf]; omega
                            | false =>
                              rw [hdl] at hlk hcs hts
                              simp only [Bool.not_false, Bool.false_eq_true, if_false, if_true, Nat.add_zero] at hlk hcs hts
                              have HCS := hid hcs
                              have HTS := hid hts
                              clear hcs hts
                              unfold ptr at hlk
                              have hpn := ptr_ne ⟨pa t, 0, none⟩
                              by_cases h1 : f t = fr
                              · have e1 : ((f t : Int) == (fr : Int)) = true := by simp [h1]
                                have h2 : ¬ nn t ≤ n := fun h2 => by unfold delL at hdl; simp [h1, h2] at hdl
                                have e2 : decide (nn t ≤ n) = false := by simp; omega
                                have hg1 : g = false := by unfold delL at hdl; simp [h1] at hdl; exact hdl.2
                                clear hdl h1 h2
                                subst hg1
                                as_aux_lemma =>
                                  go_quiet (fail)
                                  go_wp2
                                  go_roundw
                                  case rel => exact ⟨t + 1, by omega, by go_num, by rw [HTS.out, ← HDC.out], by rw [HCS.out]; exact snoc_i64 _ (by have := HCL.out; omega), below_drewN HBA'.out _⟩
                                  case measure => simp [intOf]; omega
                              · have e1 : ((f t : Int) == (fr : Int)) = false := by simp; omega
                                clear hdl h1
                                as_aux_lemma =>
                                  go_quiet (fail)
                                  go_wp2
                                  go_roundw
                                  case rel => exact ⟨t + 1, by omega, by go_num, by rw [HTS.out, ← HDC.out], by rw [HCS.out]; exact snoc_i64 _ (by have := HCL.out; omega), below_drewN HBA'.out _⟩
                                  case measure => simp [intOf]; omega
                          · obtain rfl : t = m := by omega
                            go_wp2
                            go_meet
                            exact ⟨rfl, rfl, hb⟩
                    case rest =>
                      obtain ⟨w15, hw15⟩ : ∃ w15, w15 = wc := ⟨_, rfl⟩
                      subst hw15
                      obtain ⟨rfl, rfl, hb15⟩ := hcut
                      have hfin := HFIN14.out.quiet (Kept.of_below hb15)
                      obtain ⟨d9, hd9⟩ : ∃ d9, d9 = cnt L1 (fun r => hadF (bw r) b) + tot m (delL f nn fr n g) (fun j => la j + lb j) := ⟨_, rfl⟩
                      have he9 := HE9.out
                      rw [← hd9] at he9 ⊢
                      rw [wrap_eq] at he9
                      have hlen := fun ty => IX.len k65 Yba.underlying49 hfin.ac ty
                      have hlop := fun ty => IX.len (M := fun _ => true) (K := fun _ => .int .u32 0) (V := fun _ => .int .u32 0) k42 Yba.underlying48 (ix_zero hfin.op) ty
                      rw [show cnt 0 (fun _ => true) = 0 from rfl, show ((0 : Nat) : Int) = 0 from rfl] at hlop
                      have c0 := hfin.hE.c0
                      rw [hfin.self] at c0
                      have c2 := hfin.hE.c2
                      rw [hfin.outv] at c2
                      have c3 := hfin.hE.c3
                      rw [hfin.outg] at c3
                      have c10 := hfin.hE.c10
                      have c11 := hfin.hE.c11
                      have c17 := hfin.hE.c17
                      rw [he9] at c17
                      have HBE : Hid (Below w.heap.size w w15) := HBW14.out.trans (below_le hb15 HBW14.out.size)
                      clear hfin he9 hd9 hb15 HFIN14 N27 N28 N29 HBW14 HE9 HAS HKA HPP HAA
                      have hn1 := nil_eq
                      have hn2 := nilI_eq
                      go_wp2
                      go_ret
                      exact ⟨rfl, HBE.out⟩
end Go.Proofs.Ybulkgbai
