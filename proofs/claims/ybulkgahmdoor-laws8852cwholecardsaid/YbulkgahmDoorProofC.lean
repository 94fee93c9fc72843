import Derived.Test.YbulkgahmDoorLaw
import Derived.Test.YbulkgahmDoorOpen
import Derived.Test.YbulkgahmDoorCards
import Derived.Test.YbulkgahmDoorTie
import Derived.ProofKit
import Derived.LaidMore
import Derived.OpenShut
import Derived.Stop.Joined
import Derived.Lib.LaidTab
import Derived.SevenTiedAt
namespace Go.Proofs.YbulkgahmDoor
open Go.ChangeShapes Go.WideShapes Go.ChangeAt Go.ChangeMaps Go.RowKit Go.Zz

theorem own : ownKnob Ybad.prog.godebug = none := by kernel_rfl
theorem laidOut : laidOutB Ybad.prog = true := by kernel_rfl
theorem cells33 : Ybad.prog.cellsOf 33 = 5 := by kernel_rfl
theorem bytes33 : Ybad.prog.bytesOf 33 = 32 := by kernel_rfl
theorem bytes2 : Ybad.prog.bytesOf 2 = 8 := by kernel_rfl
theorem bytes24 : Ybad.prog.bytesOf 24 = 4 := by kernel_rfl
theorem gPow : Ybad.prog.globalNamed "internal/strconv.uint64pow10" = some 0 := by kernel_rfl
theorem tPow : (Ybad.prog.globals[0]?).map (·.type) = some 87 := by kernel_rfl

/-- the row's list -/
def laid3 : List (String × DataW Unit) := [("math/bits.deBruijn32tab", Rows.laid_math_bits_deBruijn32tab), ("math/bits.deBruijn64tab", Rows.laid_math_bits_deBruijn64tab), ("internal/strconv.uint64pow10", Rows.laid_internal_strconv_uint64pow10)]

theorem door_met (os : Os) (args : Array Value) : laidMetH Ybad.prog laid3 ((World.doorLaid Ybad.prog 24 os).forCall (fun _ _ => 0) ⟨#[], args, []⟩).memory :=
  laidMetH_of_parts3 (fuel := 8) (laidMet_of_run' 8 (by kernel_rfl) (by kernel_rfl)) (by kernel_rfl) (by kernel_rfl)

theorem pow_tab : (Rows.laid_internal_strconv_uint64pow10 : DataW Unit) = Lib.tabData .u64 Lib.pow10Tab := rfl

theorem tab_of_laid {W : World} (h : laidMetH Ybad.prog laid3 W) : Tab W := by
  rw [MakeChecks.laidMetH_plain _ _ _ (by kernel_rfl)] at h
  obtain ⟨_, ⟨_, _, _, _, _, _, _, _, _, _, ⟨_, _, _, _, _, _, _, _, _, _, ⟨g, t, cs, fuel, p, _, hg, ht, hv, hd, _, _⟩, _⟩, _⟩, _⟩ := h
  obtain rfl := Option.some.inj (gPow.symm.trans hg)
  obtain rfl := Option.some.inj (tPow.symm.trans ht)
  rw [pow_tab] at hd
  unfold Tab Lib.TabIs
  rw [hv, ← Lib.cells_of_tab Ybad.underlying87 Ybad.underlying79 (by kernel_rfl) (by kernel_rfl) hd]

theorem wf_iff {k : IntKind} {n : Int} (h : (Lit.int k n).wf = true) : k.min ≤ n ∧ n ≤ k.max := by
  simpa only [Lit.wf, Bool.and_eq_true, decide_eq_true_eq] using h

theorem u8_nat {n : Int} (h : (Lit.int .u8 n).wf = true) : ∃ m : Nat, n = m ∧ m < 256 := by
  have h1 := wf_iff h
  have h2 : (0 : Int) ≤ n := h1.1
  have h3 : n ≤ (255 : Int) := h1.2
  exact ⟨n.toNat, by omega, by omega⟩
theorem u32_nat {n : Int} (h : (Lit.int .u32 n).wf = true) : ∃ m : Nat, n = m ∧ m < 4294967296 := by
  have h1 := wf_iff h
  have h2 : (0 : Int) ≤ n := h1.1
  have h3 : n ≤ (4294967295 : Int) := h1.2
  exact ⟨n.toNat, by omega, by omega⟩
theorem i64_wf {n : Int} (h : (Lit.int .i64 n).wf = true) : i64 n := by
  have h1 := wf_iff h
  exact ⟨h1.1, h1.2⟩

set_option maxRecDepth 100000 in
theorem lifted (os : Os) (started : os.Started) (H : Type) (enc : TypeId × Value → H) :
    ReturnsInHanded {} Ybad.checked os 3 .any (fun w args => (Rows.lawS8852CWholeSpec.pre enc Ybad.prog Ybad.f3 [] false w args ∧ laidMetH Ybad.prog laid3 w) ∧ sizedMet enc Ybad.prog Ybad.f3 (OpenSpec.ofChange Rows.lawS8852CWholeSpec) false w args)
      (Rows.lawS8852CWholeSpec.post enc Ybad.prog Ybad.f3 false true false false) := by
  refine returnsInHanded_of_change_and (C := Ybad.checked) (X := fun w _ => laidMetH Ybad.prog laid3 w) (fun _ _ _ hh h => h.of_heap hh) own started (by kernel_rfl) Ybad.func3
    (ChangeSpec.witness_shaped (enc := enc) (C := Ybad.checked) (os := os) (X := fun w _ => laidMetH Ybad.prog laid3 w) false (World.doorLaid Ybad.prog 24 os) #[.slice none 0 0, .slice none 0 0, .int .u8 0, .int .u32 0, .int .u32 0, .int .u32 0, .bool false, .slice none 0 0, .int .i64 0, .string ⟨#[]⟩] 8 rfl (World.shaped_of_RefB (by kernel_rfl) (by kernel_rfl)) (by kernel_rfl) (by kernel_rfl) (by kernel_rfl) (door_met os _)) ?_
  intro W base args ds gs before hval0 hW _ hsz0 hL _
  have hsz : (DataW.weightsEach Ybad.prog (Ybad.f3.params.toList ++ Rows.lawS8852CWholeSpec.plain.varTypes Ybad.prog) (ds ++ gs)).all (· ≤ reachBytes) = true := hsz0
  have hval : ∀ (j : Nat) t v, Ybad.f3.params[j]? = some t → args[j]? = some v → Value.okWide Ybad.prog W .any base t v := hval0
  have hW' := hW
  obtain ⟨p, q, hA0, hV, rfl, hfz, hnd⟩ := hW
  have hA : DataW.TrodAll enc Ybad.prog W 0 (fun _ => true) true Ybad.f3.params.toList args.toList ds p := hA0
  rw [Ybad.params3] at hA hval hsz
  obtain ⟨v0, vs0, d0, ds0, p0, q0, hargs, rfl, rfl, h0, r0⟩ := trodAll_cons hA
  obtain ⟨v1, vs1, d1, ds1, p1, q1, rfl, rfl, rfl, h1, r1⟩ := trodAll_cons r0
  obtain ⟨v2, vs2, d2, ds2, p2, q2, rfl, rfl, rfl, h2, r2⟩ := trodAll_cons r1
  obtain ⟨v3, vs3, d3, ds3, p3, q3, rfl, rfl, rfl, h3, r3⟩ := trodAll_cons r2
  obtain ⟨v4, vs4, d4, ds4, p4, q4, rfl, rfl, rfl, h4, r4⟩ := trodAll_cons r3
  obtain ⟨v5, vs5, d5, ds5, p5, q5, rfl, rfl, rfl, h5, r5⟩ := trodAll_cons r4
  obtain ⟨v6, vs6, d6, ds6, p6, q6, rfl, rfl, rfl, h6, r6⟩ := trodAll_cons r5
  obtain ⟨v7, vs7, d7, ds7, p7, q7, rfl, rfl, rfl, h7, r7⟩ := trodAll_cons r6
  obtain ⟨v8, vs8, d8, ds8, p8, q8, rfl, rfl, rfl, h8, r8⟩ := trodAll_cons r7
  obtain ⟨v9, vs9, d9, ds9, p9, q9, rfl, rfl, rfl, h9, r9⟩ := trodAll_cons r8
  obtain ⟨rfl, rfl, rfl⟩ := trodAll_nil r9
  obtain rfl : args = #[v0, v1, v2, v3, v4, v5, v6, v7, v8, v9] := by cases args; simp_all
  obtain ⟨rfl, rfl⟩ := trodVars_none hV
  obtain ⟨a0, len0, cap0, rfl⟩ := okWide_slice Ybad.underlying22 (hval 0 22 v0 rfl rfl)
  obtain ⟨a1, len1, cap1, rfl⟩ := okWide_slice Ybad.underlying23 (hval 1 23 v1 rfl rfl)
  obtain ⟨a7, len7, cap7, rfl⟩ := okWide_slice Ybad.underlying25 (hval 7 25 v7 rfl rfl)
  have lt0 : ∀ x ∈ p0, x.block < W.heap.size := by obtain ⟨m, hm⟩ := h0; exact DataW.trod_lt m _ _ _ hm
  have lt1 : ∀ x ∈ p1, x.block < W.heap.size := by obtain ⟨m, hm⟩ := h1; exact DataW.trod_lt m _ _ _ hm
  have lt7 : ∀ x ∈ p7, x.block < W.heap.size := by obtain ⟨m, hm⟩ := h7; exact DataW.trod_lt m _ _ _ hm
  obtain ⟨rl, rfl, rfl, rfl, w2⟩ := open_int Ybad.underlying5 (hval 2 5 v2 rfl rfl) h2
  obtain ⟨fr, rfl, rfl, rfl, w3⟩ := open_int Ybad.underlying24 (hval 3 24 v3 rfl rfl) h3
  obtain ⟨tt, rfl, rfl, rfl, w4⟩ := open_int Ybad.underlying24 (hval 4 24 v4 rfl rfl) h4
  obtain ⟨so, rfl, rfl, rfl, w5⟩ := open_int Ybad.underlying24 (hval 5 24 v5 rfl rfl) h5
  obtain ⟨ns, rfl, rfl, rfl⟩ := open_bool Ybad.underlying4 (hval 6 4 v6 rfl rfl) h6
  obtain ⟨ky, rfl, rfl, rfl, w8⟩ := open_int Ybad.underlying2 (hval 8 2 v8 rfl rfl) h8
  obtain ⟨ps, rfl, rfl, rfl, w9⟩ := open_string Ybad.underlying9 (hval 9 9 v9 rfl rfl) h9
  obtain ⟨_, _, hn0, b0, o0, X, ha0, hX, hXw⟩ := open_ints_row Ybad.underlying22 Ybad.underlying2 (by kernel_rfl) h0
  obtain ⟨_, _, hn1, b1, o1, ha1, hx⟩ := open_rows Ybad.underlying23 (by rw [cells33]; omega) h1
  obtain ⟨T, hT, hTw⟩ := field_int Ybad.underlying33 cells33 hx 0 _ rfl (by kernel_rfl) (by decide) Ybad.underlying5
  obtain ⟨Wr, hWr⟩ := field_bool Ybad.underlying33 cells33 hx 1 _ rfl (by kernel_rfl) (by decide) Ybad.underlying4
  obtain ⟨Ky, hKy, hKw⟩ := field_int Ybad.underlying33 cells33 hx 2 _ rfl (by kernel_rfl) (by decide) Ybad.underlying2
  obtain ⟨Vl, hVl, hVw⟩ := field_int Ybad.underlying33 cells33 hx 3 _ rfl (by kernel_rfl) (by decide) Ybad.underlying2
  obtain ⟨Nl, hNl⟩ := field_bool Ybad.underlying33 cells33 hx 4 _ rfl (by kernel_rfl) (by decide) Ybad.underlying4
  obtain ⟨_, _, hn7, b7, o7, Cx, ha7, hC, hCw⟩ := open_ints_row Ybad.underlying25 Ybad.underlying24 (by kernel_rfl) h7
  have s0 := slice_reach (j := 0) hsz rfl rfl Ybad.underlying22 bytes2 h0
  have s1 := slice_reach (j := 1) hsz rfl rfl Ybad.underlying23 bytes33 h1
  have s7 := slice_reach (j := 7) hsz rfl rfl Ybad.underlying25 bytes24 h7
  have s9 : ps.data.toList.length ≤ reachBytes := sized_string hsz (j := 9) rfl rfl
  have hreach : reachBytes ≤ 140737488355328 := by decide
  have htab := tab_of_laid hL
  obtain ⟨rl', e2, u2⟩ := u8_nat w2
  obtain ⟨fr', e3, u3⟩ := u32_nat w3
  obtain ⟨tt', e4, u4⟩ := u32_nat w4
  obtain ⟨so', e5, u5⟩ := u32_nat w5
  clear hA0 hval0 hsz0
  have key : Calls Ybad.prog 3 #[.slice a0 len0 cap0, .slice a1 len1 cap1, .int .u8 rl, .int .u32 fr, .int .u32 tt, .int .u32 so, .bool ns, .slice a7 len7 cap7, .int .i64 ky, .string ps] W fun e w' => e = .returned (.bool true) ∧ Below W.heap.size W w' := by
    rw [e2, e3, e4, e5]
    have hps : ps = ⟨ps.data.toList.toArray⟩ := rfl
    rw [hps]
    generalize ps.data.toList = pre at s9
    by_cases hl : 65536 < len0 + len1 + len7 + pre.length
    · exact walkC_long a0 len0 cap0 a1 len1 cap1 _ _ _ _ ns a7 len7 cap7 ky pre W hl (by omega)
    · exact walkC a0 len0 cap0 b0 o0 X a1 len1 cap1 b1 o1 (fun i => (T i).toNat) Wr Ky Vl Nl rl' fr' tt' so' ns a7 len7 cap7 b7 o7 (fun i => (Cx i).toNat) ky pre W
        (fun h => (ha0 h).1) hX (fun i hi => i64_wf (hXw i hi)) (fun h => (ha1 h).1) (fun i hi => by obtain ⟨m, hm, _⟩ := u8_nat (hTw i hi); have := hT i hi; simp only [hm, Int.toNat_natCast] at this ⊢; exact this) (fun i hi => by obtain ⟨m, hm, _⟩ := u8_nat (hTw i hi); simp only [hm, Int.toNat_natCast]; assumption)
        hWr hKy hVl (fun i hi => i64_wf (hVw i hi)) hNl u2 u3 u4 u5 (fun h => (ha7 h).1) (fun i hi => by obtain ⟨m, hm, _⟩ := u32_nat (hCw i hi); have := hC i hi; simp only [hm, Int.toNat_natCast] at this ⊢; exact this) (fun i hi => by obtain ⟨m, hm, _⟩ := u32_nat (hCw i hi); simp only [hm, Int.toNat_natCast]; assumption) (i64_wf w8) htab (by omega)
  refine key.mono fun e W' ⟨he, bel⟩ => ?_
  subst he
  exact ⟨_, rfl, _, _, _, [], _, [], hW', trodAll_mk1 (shut_bool Ybad.underlying4 _), (trodAll_cons_mk (Below.trod laidOut (by kernel_rfl) (of_decide_eq_true (by kernel_rfl)) h0 bel lt0) (trodAll_cons_mk (Below.trod laidOut (by kernel_rfl) (of_decide_eq_true (by kernel_rfl)) h1 bel lt1)
    (trodAll_cons_mk (shut_int Ybad.underlying5 w2) (trodAll_cons_mk (shut_int Ybad.underlying24 w3) (trodAll_cons_mk (shut_int Ybad.underlying24 w4) (trodAll_cons_mk (shut_int Ybad.underlying24 w5) (trodAll_cons_mk (shut_bool Ybad.underlying4 _)
    (trodAll_cons_mk (Below.trod laidOut (by kernel_rfl) (of_decide_eq_true (by kernel_rfl)) h7 bel lt7) (trodAll_cons_mk (shut_int Ybad.underlying2 w8) (trodAll_cons_mk (shut_string Ybad.underlying9 w9) trodAll_mk0)))))))))), rfl, bel.frame _, fun h => by cases h⟩

theorem over : Rows.LawS8852CWholeSaid :=
  OpenClaim.holds_of_wide 3 Ybad.f3 rfl rfl rfl rfl rfl rfl rfl ⟨rfl, rfl, rfl, rfl, rfl⟩ rfl rfl rfl rfl rfl (by kernel_rfl) Ybad.func3 (by kernel_rfl)
    (of_decide_eq_true (by kernel_rfl)) (by unfold Func.isWrapper; first | (rw [if_pos (by decide +kernel)]; kernel_rfl) | (rw [if_neg (by decide +kernel)]; exact ⟨rfl, rfl⟩))
    (fun os started H enc _ => lifted os started H enc)

theorem lawS8852CWholeCard_proved : Rows.LawS8852CWholeCardSaid :=
  Claim7.holds_tied_plain_at .later [] [.data, .data, .data] true (true, "5d1f239e3b2d05073bb1b28fd870a26ecd9412655dc68a69cd07430b506c8074") false
    over (fun _ h => by cases h) (by kernel_rfl) (fun _ h => by cases h) lawS8852CWhole_row_tie rfl ⟨rfl, rfl⟩ (by kernel_rfl) rfl
    (fun f fn hf hfn => by
      obtain rfl : f = 3 := Option.some.inj ((show Ybad.prog.funcNamed "example.com/chronogram/chronogram/pkg/history.LawS8852CWhole" = some 3 by kernel_rfl).symm.trans hf) |>.symm
      obtain rfl : fn = Ybad.f3 := (Option.some.inj (Ybad.func3.symm.trans hfn)).symm
      exact ⟨by kernel_rfl, fun j t ht => by
        rw [Ybad.params3] at ht
        have h3 : t = 22 ∨ t = 23 ∨ t = 5 ∨ t = 24 ∨ t = 4 ∨ t = 25 ∨ t = 2 ∨ t = 9 := by
          rcases j with _ | _ | _ | _ | _ | _ | _ | _ | _ | _ | j <;> simp at ht <;> subst ht <;> simp
        rcases h3 with rfl | rfl | rfl | rfl | rfl | rfl | rfl | rfl
        · exact (show Ybad.prog.wantsStandIn 22 = false by kernel_rfl)
        · exact (show Ybad.prog.wantsStandIn 23 = false by kernel_rfl)
        · exact (show Ybad.prog.wantsStandIn 5 = false by kernel_rfl)
        · exact (show Ybad.prog.wantsStandIn 24 = false by kernel_rfl)
        · exact (show Ybad.prog.wantsStandIn 4 = false by kernel_rfl)
        · exact (show Ybad.prog.wantsStandIn 25 = false by kernel_rfl)
        · exact (show Ybad.prog.wantsStandIn 2 = false by kernel_rfl)
        · exact (show Ybad.prog.wantsStandIn 9 = false by kernel_rfl)⟩)
    (by kernel_rfl)
end Go.Proofs.YbulkgahmDoor
