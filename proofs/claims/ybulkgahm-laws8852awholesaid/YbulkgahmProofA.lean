import Derived.Test.YbulkgahmLawA
import Derived.Test.YbulkgahmOpen
namespace Go.Proofs.Ybulkgahm
open Go.ChangeShapes Go.WideShapes Go.ChangeAt Go.RowKit Go.Zz

theorem ownA : ownKnob Yba.prog.godebug = none := by kernel_rfl
theorem laidOutA : laidOutB Yba.prog = true := by kernel_rfl
theorem cells35 : Yba.prog.cellsOf 35 = 4 := by kernel_rfl

set_option maxRecDepth 100000 in
theorem liftedA (os : Os) (started : os.Started) (H : Type) (enc : TypeId × Value → H) :
    ReturnsInHanded {} Yba.checked os 3 .any (Rows.lawS8852AWholeSpec.pre6 enc Yba.prog Yba.f3 Rows.lawS8852AWholeRow.domain false) (Rows.lawS8852AWholeSpec.post enc Yba.prog Yba.f3 false true false false) := by
  refine returnsInHanded_of_change (C := Yba.checked) ownA started (by kernel_rfl) Yba.func3
    (ChangeSpec.witness6 (enc := enc) (C := Yba.checked) false ⟨#[], #[.int .u8 0, .slice none 0 0], []⟩ 8 (by kernel_rfl) (by kernel_rfl) (by kernel_rfl) (by kernel_rfl)) ?_
  intro W base args ds gs before hval0 hW hcnd _
  have hval : ∀ (j : Nat) t v, Yba.f3.params[j]? = some t → args[j]? = some v → Value.okWide Yba.prog W .any base t v := hval0
  have hW' := hW
  obtain ⟨p, q, hA0, hV, rfl, hfz, hnd⟩ := hW
  have hA : DataW.TrodAll enc Yba.prog W 0 (fun _ => true) true Yba.f3.params.toList args.toList ds p := hA0
  rw [Yba.params3] at hA hval
  obtain ⟨v0, vs0, d0, ds0, p0, q0, hargs, rfl, rfl, h0, r0⟩ := trodAll_cons hA
  obtain ⟨v1, vs1, d1, ds1, p1, q1, rfl, rfl, rfl, h1, r1⟩ := trodAll_cons r0
  obtain ⟨rfl, rfl, rfl⟩ := trodAll_nil r1
  obtain rfl : args = #[v0, v1] := by cases args; simp_all
  obtain ⟨rfl, rfl⟩ := trodVars_none hV
  obtain ⟨a0, rfl, rfl, rfl, w0⟩ := open_int Yba.underlying5 (hval 0 5 v0 rfl rfl) h0
  obtain ⟨a1, len1, cap1, rfl⟩ := okWide_slice Yba.underlying22 (hval 1 22 v1 rfl rfl)
  have lt1 : ∀ x ∈ p1, x.block < W.heap.size := by obtain ⟨m, hm⟩ := h1; exact DataW.trod_lt m _ _ _ hm
  obtain ⟨_, _, hn1, b1, o1, ha1, hx⟩ := open_rows Yba.underlying22 (by rw [cells35]; omega) h1
  obtain ⟨K, hK, _⟩ := field_int Yba.underlying35 cells35 hx 0 _ rfl (by kernel_rfl) (by decide) Yba.underlying5
  obtain ⟨Wd, hWd, _⟩ := field_int Yba.underlying35 cells35 hx 1 _ rfl (by kernel_rfl) (by decide) Yba.underlying5
  obtain ⟨Tx, hTx, hTw⟩ := field_int Yba.underlying35 cells35 hx 2 _ rfl (by kernel_rfl) (by decide) Yba.underlying33
  obtain ⟨I, hI, _⟩ := field_int Yba.underlying35 cells35 hx 3 _ rfl (by kernel_rfl) (by decide) Yba.underlying21
  clear hA0 hval0
  have hb0 := bounds_u8 w0
  have key : Calls Yba.prog 3 #[.int .u8 a0, .slice a1 len1 cap1] W fun e w' => e = .returned (.bool true) ∧ Below W.heap.size W w' := by
    by_cases hl : 65536 < len1
    · exact walkA_long a0 a1 len1 cap1 W hl
    · exact walkA a0 (by omega) (by omega) a1 len1 cap1 b1 o1 K Wd Tx I W _ rfl ha1 hK hWd hTx hI (fun i hi => by have := bounds_u16 (hTw i hi); omega) (by omega)
  refine key.mono fun e W' ⟨he, bel⟩ => ?_
  subst he
  exact ⟨_, rfl, _, _, _, [], _, [], hW', trodAll_mk1 (shut_bool Yba.underlying4 _), (trodAll_cons_mk (shut_int Yba.underlying5 w0) (trodAll_cons_mk (Below.trod laidOutA (by kernel_rfl) (of_decide_eq_true (by kernel_rfl)) h1 bel lt1) trodAll_mk0)), rfl, bel.frame _, fun h => by cases h⟩

theorem overA : Rows.lawS8852AWholeRow.holds Yba.pinned (OpenSpec.ofChange Rows.lawS8852AWholeSpec) :=
  OpenClaim.holds_of_wide 3 Yba.f3 rfl rfl rfl rfl rfl rfl rfl ⟨rfl, rfl, rfl, rfl, rfl⟩ rfl rfl rfl rfl rfl (by kernel_rfl) Yba.func3 (by kernel_rfl)
    (of_decide_eq_true (by kernel_rfl)) (by unfold Func.isWrapper; first | (rw [if_pos (by decide +kernel)]; kernel_rfl) | (rw [if_neg (by decide +kernel)]; exact ⟨rfl, rfl⟩))
    (fun os started H enc _ => liftedA os started H enc)

theorem lawS8852AWhole_proved : Rows.LawS8852AWholeSaid := overA
end Go.Proofs.Ybulkgahm
