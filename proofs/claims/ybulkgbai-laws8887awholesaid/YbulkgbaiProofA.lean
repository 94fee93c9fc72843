import Derived.Test.YbulkgbaiLawA
import Derived.Test.YbulkgbaiOpen
namespace Go.Proofs.Ybulkgbai
open Go.ChangeShapes Go.WideShapes Go.ChangeAt Go.RowKit Go.Zz

theorem ownA : ownKnob Yba.prog.godebug = none := by kernel_rfl
theorem laidOutA : laidOutB Yba.prog = true := by kernel_rfl

set_option maxRecDepth 100000 in
theorem liftedA (os : Os) (started : os.Started) (H : Type) (enc : TypeId × Value → H) :
    ReturnsInHanded {} Yba.checked os 3 .any (Rows.lawS8887AWholeSpec.pre6 enc Yba.prog Yba.f3 Rows.lawS8887AWholeRow.domain false) (Rows.lawS8887AWholeSpec.post enc Yba.prog Yba.f3 false true false false) := by
  refine returnsInHanded_of_change (C := Yba.checked) ownA started (by kernel_rfl) Yba.func3
    (ChangeSpec.witness6 (enc := enc) (C := Yba.checked) false ⟨#[], #[.slice none 0 0, .int .i64 0, .int .u64 0, .int .i64 0], []⟩ 8 (by kernel_rfl) (by kernel_rfl) (by kernel_rfl) (by kernel_rfl)) ?_
  intro W base args ds gs before hval0 hW hcnd _
  have hval : ∀ (j : Nat) t v, Yba.f3.params[j]? = some t → args[j]? = some v → Value.okWide Yba.prog W .any base t v := hval0
  have hW' := hW
  obtain ⟨p, q, hA0, hV, rfl, hfz, hnd⟩ := hW
  have hA : DataW.TrodAll enc Yba.prog W 0 (fun _ => true) true Yba.f3.params.toList args.toList ds p := hA0
  rw [Yba.params3] at hA hval
  obtain ⟨v0, vs0, d0, ds0, p0, q0, hargs, rfl, rfl, h0, r0⟩ := trodAll_cons hA
  obtain ⟨v1, vs1, d1, ds1, p1, q1, rfl, rfl, rfl, h1, r1⟩ := trodAll_cons r0
  obtain ⟨v2, vs2, d2, ds2, p2, q2, rfl, rfl, rfl, h2, r2⟩ := trodAll_cons r1
  obtain ⟨v3, vs3, d3, ds3, p3, q3, rfl, rfl, rfl, h3, r3⟩ := trodAll_cons r2
  obtain ⟨rfl, rfl, rfl⟩ := trodAll_nil r3
  obtain rfl : args = #[v0, v1, v2, v3] := by cases args; simp_all
  obtain ⟨rfl, rfl⟩ := trodVars_none hV
  obtain ⟨a0, len0, cap0, rfl⟩ := okWide_slice Yba.underlying22 (hval 0 22 v0 rfl rfl)
  have lt0 : ∀ x ∈ p0, x.block < W.heap.size := by obtain ⟨m, hm⟩ := h0; exact DataW.trod_lt m _ _ _ hm
  obtain ⟨a1, rfl, rfl, rfl, w1⟩ := open_int Yba.underlying3 (hval 1 3 v1 rfl rfl) h1
  obtain ⟨a2, rfl, rfl, rfl, w2⟩ := open_int Yba.underlying23 (hval 2 23 v2 rfl rfl) h2
  obtain ⟨a3, rfl, rfl, rfl, w3⟩ := open_int Yba.underlying3 (hval 3 3 v3 rfl rfl) h3
  obtain ⟨_, _, hn0, b0, o0, T, ha0, hc0, _⟩ := open_ints_row Yba.underlying22 Yba.underlying3 (by kernel_rfl) h0
  clear hA0 hval0
  have hb2 := bounds_u64 w2
  have key : Calls Yba.prog 3 #[.slice a0 len0 cap0, .int .i64 a1, .int .u64 a2, .int .i64 a3] W fun e w' => e = .returned (.bool true) ∧ Below W.heap.size W w' := by
    by_cases hl : 1048576 < len0
    · exact walkA_long a0 len0 cap0 a1 a2 a3 W hl
    · exact walkA a0 len0 cap0 b0 o0 T a1 a2 a3 W ha0 hc0 hn0 hb2.1 hb2.2 (by omega)
  refine key.mono fun e W' ⟨he, bel⟩ => ?_
  subst he
  exact ⟨_, rfl, _, _, _, [], _, [], hW', trodAll_mk1 (shut_bool Yba.underlying4 _), (trodAll_cons_mk (Below.trod laidOutA (by kernel_rfl) (of_decide_eq_true (by kernel_rfl)) h0 bel lt0) (trodAll_cons_mk (shut_int Yba.underlying3 w1) (trodAll_cons_mk (shut_int Yba.underlying23 w2) (trodAll_cons_mk (shut_int Yba.underlying3 w3) trodAll_mk0)))), rfl, bel.frame _, fun h => by cases h⟩

theorem overA : Rows.lawS8887AWholeRow.holds Yba.pinned (OpenSpec.ofChange Rows.lawS8887AWholeSpec) :=
  OpenClaim.holds_of_wide 3 Yba.f3 rfl rfl rfl rfl rfl rfl rfl ⟨rfl, rfl, rfl, rfl, rfl⟩ rfl rfl rfl rfl rfl (by kernel_rfl) Yba.func3 (by kernel_rfl)
    (of_decide_eq_true (by kernel_rfl)) (by unfold Func.isWrapper; first | (rw [if_pos (by decide +kernel)]; kernel_rfl) | (rw [if_neg (by decide +kernel)]; exact ⟨rfl, rfl⟩))
    (fun os started H enc _ => liftedA os started H enc)

theorem lawS8887AWhole_proved : Rows.LawS8887AWholeSaid := overA
end Go.Proofs.Ybulkgbai
