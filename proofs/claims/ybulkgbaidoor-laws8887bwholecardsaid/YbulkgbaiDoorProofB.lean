import Derived.Test.YbulkgbaiDoorLaw
import Derived.Test.YbulkgbaiDoorOpen
import Derived.Test.YbulkgbaiDoorCards
import Derived.Test.YbulkgbaiDoorTie
import Derived.ProofKit
import Derived.LaidMore
import Derived.OpenShut
import Derived.Stop.Joined
import Derived.Lib.LaidTab
import Derived.SevenTiedAt
namespace Go.Proofs.YbulkgbaiDoor
open Go.ChangeShapes Go.WideShapes Go.ChangeAt Go.RowKit Go.Zz

theorem ownK : ownKnob Ybad.prog.godebug = none := by kernel_rfl
theorem bytes5 : Ybad.prog.bytesOf 5 = 1 := by kernel_rfl
theorem tDe : (Ybad.prog.globals[0]?).map (·.type) = some 83 := by kernel_rfl

/-- the row's list -/
def laid1 : List (String × DataW Unit) := [("math/bits.deBruijn64tab", Rows.laid_math_bits_deBruijn64tab)]

theorem door_met (os : Os) (args : Array Value) : laidMetH Ybad.prog laid1 ((World.doorLaid Ybad.prog 14 os).forCall (fun _ _ => 0) ⟨#[], args, []⟩).memory :=
  laidMetH_of_parts3 (fuel := 8) (laidMet_of_run' 8 (by kernel_rfl) (by kernel_rfl)) (by kernel_rfl) (by kernel_rfl)

theorem de_tab : (Rows.laid_math_bits_deBruijn64tab : DataW Unit) = Lib.tabData .u8 deTab := rfl

theorem tab_of_laid {W : World} (h : laidMetH Ybad.prog laid1 W) : Tab W := by
  rw [MakeChecks.laidMetH_plain _ _ _ (by kernel_rfl)] at h
  obtain ⟨_, ⟨g, t, cs, fuel, p, _, hg, ht, hv, hd, _, _⟩, _⟩ := h
  obtain rfl := Option.some.inj (gDe.symm.trans hg)
  obtain rfl := Option.some.inj (tDe.symm.trans ht)
  rw [de_tab] at hd
  unfold Tab Lib.TabIs
  rw [hv, ← Lib.cells_of_tab Ybad.underlying83 Ybad.underlying5 (by kernel_rfl) (by kernel_rfl) hd]

theorem tab_lt {W : World} (h : Tab W) : 0 < W.heap.size := by
  have hc := Lib.TabIs.cell h gDe 0 (by decide)
  exact World.block_lt_of_cell? _ _ hc

theorem wf_iff {k : IntKind} {n : Int} (h : (Lit.int k n).wf = true) : k.min ≤ n ∧ n ≤ k.max := by
  simpa only [Lit.wf, Bool.and_eq_true, decide_eq_true_eq] using h

theorem u8_nat {n : Int} (h : (Lit.int .u8 n).wf = true) : ∃ m : Nat, n = m ∧ m < 256 := by
  have h1 := wf_iff h
  have h2 : (0 : Int) ≤ n := h1.1
  have h3 : n ≤ (255 : Int) := h1.2
  exact ⟨n.toNat, by omega, by omega⟩
theorem u16_nat {n : Int} (h : (Lit.int .u16 n).wf = true) : ∃ m : Nat, n = m ∧ m < 65536 := by
  have h1 := wf_iff h
  have h2 : (0 : Int) ≤ n := h1.1
  have h3 : n ≤ (65535 : Int) := h1.2
  exact ⟨n.toNat, by omega, by omega⟩
theorem u32_nat {n : Int} (h : (Lit.int .u32 n).wf = true) : ∃ m : Nat, n = m ∧ m < 4294967296 := by
  have h1 := wf_iff h
  have h2 : (0 : Int) ≤ n := h1.1
  have h3 : n ≤ (4294967295 : Int) := h1.2
  exact ⟨n.toNat, by omega, by omega⟩

set_option maxRecDepth 100000 in
theorem lifted (os : Os) (started : os.Started) (H : Type) (enc : TypeId × Value → H) :
    ReturnsInHanded {} Ybad.checked os 3 .any (fun w args => (Rows.lawS8887BWholeSpec.pre enc Ybad.prog Ybad.f3 [] false w args ∧ laidMetH Ybad.prog laid1 w) ∧ sizedMet enc Ybad.prog Ybad.f3 (OpenSpec.ofChange Rows.lawS8887BWholeSpec) false w args)
      (Rows.lawS8887BWholeSpec.post enc Ybad.prog Ybad.f3 false true false false) := by
  refine returnsInHanded_of_change_and (C := Ybad.checked) (X := fun w _ => laidMetH Ybad.prog laid1 w) (fun _ _ _ hh h => h.of_heap hh) ownK started (by kernel_rfl) Ybad.func3
    (ChangeSpec.witness_shaped (enc := enc) (C := Ybad.checked) (os := os) (X := fun w _ => laidMetH Ybad.prog laid1 w) false (World.doorLaid Ybad.prog 14 os) #[.int .u32 0, .int .u32 0, .int .u16 0, .int .u16 0, .int .u8 0, .int .u8 0, .slice none 0 0] 8 rfl (World.shaped_of_RefB (by kernel_rfl) (by kernel_rfl)) (by kernel_rfl) (by kernel_rfl) (by kernel_rfl) (door_met os _)) ?_
  intro W base args ds gs before hval0 hW _ hsz0 hL _
  have hsz : (DataW.weightsEach Ybad.prog (Ybad.f3.params.toList ++ Rows.lawS8887BWholeSpec.plain.varTypes Ybad.prog) (ds ++ gs)).all (· ≤ reachBytes) = true := hsz0
  have hval : ∀ (j : Nat) t v, Ybad.f3.params[j]? = some t → args[j]? = some v → Value.okWide Ybad.prog W .any base t v := hval0
  have hW' := hW
  obtain ⟨p, q, hA0, hV, rfl, hfz, hnd⟩ := hW
  have hA : DataW.TrodAll enc Ybad.prog W 0 (fun _ => true) true Ybad.f3.params.toList args.toList ds p := hA0
  rw [Ybad.params3] at hA hval hsz
  obtain ⟨v0, vs0, d0, ds0, p0, q0, hargs, rfl, rfl, h0, r0⟩ := trodAll_cons hA
  obtain ⟨v1, vs1, d1, ds1, p1, q1, rfl, rfl, rfl, h1, r1⟩ := trodAll_cons r0
  obtain ⟨v2, vs2, d2, ds2, p2, q2, rfl, rfl, rfl, h2, r2⟩ := trodAll_cons r1
  obtain ⟨v3, vs3, d3, ds3, p3, q3, rfl, rfl, rfl, h3, r3⟩ := trodAll_cons r2
  obtain ⟨v4, vs4, d4, ds4, p4, q4, rfl, rfl, rfl, h4, r4⟩ := trodAll_cons r3
  obtain ⟨v5, vs5, d5, ds5, p5, q5, rfl, rfl, rfl, h5, r5⟩ := trodAll_cons r4
  obtain ⟨v6, vs6, d6, ds6, p6, q6, rfl, rfl, rfl, h6, r6⟩ := trodAll_cons r5
  obtain ⟨rfl, rfl, rfl⟩ := trodAll_nil r6
  obtain rfl : args = #[v0, v1, v2, v3, v4, v5, v6] := by cases args; simp_all
  obtain ⟨rfl, rfl⟩ := trodVars_none hV
  obtain ⟨a6, len6, cap6, rfl⟩ := okWide_slice Ybad.underlying24 (hval 6 24 v6 rfl rfl)
  have lt6 : ∀ x ∈ p6, x.block < W.heap.size := by obtain ⟨m, hm⟩ := h6; exact DataW.trod_lt m _ _ _ hm
  obtain ⟨x0, rfl, rfl, rfl, w0⟩ := open_int Ybad.underlying22 (hval 0 22 v0 rfl rfl) h0
  obtain ⟨x1, rfl, rfl, rfl, w1⟩ := open_int Ybad.underlying22 (hval 1 22 v1 rfl rfl) h1
  obtain ⟨x2, rfl, rfl, rfl, w2⟩ := open_int Ybad.underlying23 (hval 2 23 v2 rfl rfl) h2
  obtain ⟨x3, rfl, rfl, rfl, w3⟩ := open_int Ybad.underlying23 (hval 3 23 v3 rfl rfl) h3
  obtain ⟨x4, rfl, rfl, rfl, w4⟩ := open_int Ybad.underlying5 (hval 4 5 v4 rfl rfl) h4
  obtain ⟨x5, rfl, rfl, rfl, w5⟩ := open_int Ybad.underlying5 (hval 5 5 v5 rfl rfl) h5
  obtain ⟨_, _, hn6, b6, o6, U, ha6, hU, _⟩ := open_ints_row Ybad.underlying24 Ybad.underlying5 (by kernel_rfl) h6
  have s6 := slice_reach (j := 6) hsz rfl rfl Ybad.underlying24 bytes5 h6
  have htab := tab_of_laid hL
  have hw0 := tab_lt htab
  obtain ⟨y0, e0, u0⟩ := u32_nat w0
  obtain ⟨y1, e1, u1⟩ := u32_nat w1
  obtain ⟨y2, e2, u2⟩ := u16_nat w2
  obtain ⟨y3, e3, u3⟩ := u16_nat w3
  obtain ⟨y4, e4, u4⟩ := u8_nat w4
  obtain ⟨y5, e5, u5⟩ := u8_nat w5
  clear hA0 hval0 hsz0
  have key : Calls Ybad.prog 3 #[.int .u32 x0, .int .u32 x1, .int .u16 x2, .int .u16 x3, .int .u8 x4, .int .u8 x5, .slice a6 len6 cap6] W fun e w' => e = .returned (.bool true) ∧ Below W.heap.size W w' := by
    rw [e0, e1, e2, e3, e4, e5]
    by_cases hl : 1048576 < len6
    · exact walkB_long _ _ _ _ _ _ len6 cap6 a6 W hl (by omega)
    · exact walkB y0 y1 y2 y3 y4 y5 len6 cap6 b6 o6 a6 U W u0 u1 u2 u3 u4 u5 (by omega) (fun h => (ha6 h).1) hU htab hw0
  refine key.mono fun e W' ⟨he, bel⟩ => ?_
  subst he
  exact ⟨_, rfl, _, _, _, [], _, [], hW', trodAll_mk1 (shut_bool Ybad.underlying4 _), (trodAll_cons_mk (shut_int Ybad.underlying22 w0) (trodAll_cons_mk (shut_int Ybad.underlying22 w1) (trodAll_cons_mk (shut_int Ybad.underlying23 w2) (trodAll_cons_mk (shut_int Ybad.underlying23 w3) (trodAll_cons_mk (shut_int Ybad.underlying5 w4) (trodAll_cons_mk (shut_int Ybad.underlying5 w5)
    (trodAll_cons_mk (Below.trod laidOut (by kernel_rfl) (of_decide_eq_true (by kernel_rfl)) h6 bel lt6) trodAll_mk0))))))), rfl, bel.frame _, fun h => by cases h⟩

theorem over : Rows.LawS8887BWholeSaid :=
  OpenClaim.holds_of_wide 3 Ybad.f3 rfl rfl rfl rfl rfl rfl rfl ⟨rfl, rfl, rfl, rfl, rfl⟩ rfl rfl rfl rfl rfl (by kernel_rfl) Ybad.func3 (by kernel_rfl)
    (of_decide_eq_true (by kernel_rfl)) (by unfold Func.isWrapper; first | (rw [if_pos (by decide +kernel)]; kernel_rfl) | (rw [if_neg (by decide +kernel)]; exact ⟨rfl, rfl⟩))
    (fun os started H enc _ => lifted os started H enc)

theorem lawS8887BWholeCard_proved : Rows.LawS8887BWholeCardSaid :=
  Claim7.holds_tied_plain_at .later [] [.data] true (true, "e33b208b604f9a901504fe75408e20bad3c0a1dbeb96686a833124f00ac3b86c") true
    over (fun _ h => by cases h) (by kernel_rfl) (fun _ h => by cases h) lawS8887BWhole_row_tie rfl ⟨rfl, rfl⟩ (by kernel_rfl) rfl
    (fun f fn hf hfn => by
      obtain rfl : f = 3 := Option.some.inj ((show Ybad.prog.funcNamed "example.com/causeway/causeway/internal/broadcast.LawS8887BWhole" = some 3 by kernel_rfl).symm.trans hf) |>.symm
      obtain rfl : fn = Ybad.f3 := (Option.some.inj (Ybad.func3.symm.trans hfn)).symm
      exact ⟨by kernel_rfl, fun j t ht => by
        rw [Ybad.params3] at ht
        have h3 : t = 22 ∨ t = 23 ∨ t = 5 ∨ t = 24 := by
          rcases j with _ | _ | _ | _ | _ | _ | _ | j <;> simp at ht <;> subst ht <;> simp
        rcases h3 with rfl | rfl | rfl | rfl
        · exact (show Ybad.prog.wantsStandIn 22 = false by kernel_rfl)
        · exact (show Ybad.prog.wantsStandIn 23 = false by kernel_rfl)
        · exact (show Ybad.prog.wantsStandIn 5 = false by kernel_rfl)
        · exact (show Ybad.prog.wantsStandIn 24 = false by kernel_rfl)⟩)
    (by kernel_rfl)
end Go.Proofs.YbulkgbaiDoor
