import Derived.Test.YbulkgbaiLawR
import Derived.Test.YbulkgbaiOpen
namespace Go.Proofs.Ybulkgbai
open Go.ChangeShapes Go.WideShapes Go.ChangeAt Go.RowKit Go.Zz

theorem ownR : ownKnob Yba.prog.godebug = none := by kernel_rfl
theorem laidOutR : laidOutB Yba.prog = true := by kernel_rfl

set_option maxRecDepth 100000 in
theorem liftedR (os : Os) (started : os.Started) (H : Type) (enc : TypeId × Value → H) :
    ReturnsInHanded {} Yba.checked os 4 .any (Rows.lawS8887ARanksSpec.pre6 enc Yba.prog Yba.f4 Rows.lawS8887ARanksRow.domain false) (Rows.lawS8887ARanksSpec.post enc Yba.prog Yba.f4 false true false false) := by
  refine returnsInHanded_of_change (C := Yba.checked) ownR started (by kernel_rfl) Yba.func4
    (ChangeSpec.witness6 (enc := enc) (C := Yba.checked) false ⟨#[], #[.slice none 0 0, .slice none 0 0], []⟩ 8 (by kernel_rfl) (by kernel_rfl) (by kernel_rfl) (by kernel_rfl)) ?_
  intro W base args ds gs before hval0 hW hcnd _
  have hval : ∀ (j : Nat) t v, Yba.f4.params[j]? = some t → args[j]? = some v → Value.okWide Yba.prog W .any base t v := hval0
  have hW' := hW
  obtain ⟨p, q, hA0, hV, rfl, hfz, hnd⟩ := hW
  have hA : DataW.TrodAll enc Yba.prog W 0 (fun _ => true) true Yba.f4.params.toList args.toList ds p := hA0
  rw [Yba.params4] at hA hval
  obtain ⟨v0, vs0, d0, ds0, p0, q0, hargs, rfl, rfl, h0, r0⟩ := trodAll_cons hA
  obtain ⟨v1, vs1, d1, ds1, p1, q1, rfl, rfl, rfl, h1, r1⟩ := trodAll_cons r0
  obtain ⟨rfl, rfl, rfl⟩ := trodAll_nil r1
  obtain rfl : args = #[v0, v1] := by cases args; simp_all
  obtain ⟨rfl, rfl⟩ := trodVars_none hV
  obtain ⟨a0, len0, cap0, rfl⟩ := okWide_slice Yba.underlying30 (hval 0 30 v0 rfl rfl)
  obtain ⟨a1, len1, cap1, rfl⟩ := okWide_slice Yba.underlying31 (hval 1 31 v1 rfl rfl)
  have lt0 : ∀ x ∈ p0, x.block < W.heap.size := by obtain ⟨m, hm⟩ := h0; exact DataW.trod_lt m _ _ _ hm
  have lt1 : ∀ x ∈ p1, x.block < W.heap.size := by obtain ⟨m, hm⟩ := h1; exact DataW.trod_lt m _ _ _ hm
  obtain ⟨_, _, _, b0, o0, Fl, ha0, hc0⟩ := open_bools_row Yba.underlying30 Yba.underlying4 (by kernel_rfl) h0
  obtain ⟨_, _, _, b1, o1, Tg, ha1, hc1, hw1⟩ := open_ints_row Yba.underlying31 Yba.underlying33 (by kernel_rfl) h1
  clear hA0 hval0
  have key : Calls Yba.prog 4 #[.slice a0 len0 cap0, .slice a1 len1 cap1] W fun e w' => e = .returned (.bool true) ∧ Below W.heap.size W w' := by
    by_cases hl : 65536 < len0 ∨ 65536 < len1
    · exact walkR_long a0 a1 len0 cap0 len1 cap1 W hl
    · exact walkR a0 len0 cap0 b0 o0 Fl a1 len1 cap1 b1 o1 Tg W ha0 hc0 ha1 hc1 (fun i hi => bounds_u16 (hw1 i hi)) (by omega) (by omega)
  refine key.mono fun e W' ⟨he, bel⟩ => ?_
  subst he
  exact ⟨_, rfl, _, _, _, [], _, [], hW', trodAll_mk1 (shut_bool Yba.underlying4 _), (trodAll_cons_mk (Below.trod laidOutR (by kernel_rfl) (of_decide_eq_true (by kernel_rfl)) h0 bel lt0) (trodAll_cons_mk (Below.trod laidOutR (by kernel_rfl) (of_decide_eq_true (by kernel_rfl)) h1 bel lt1) trodAll_mk0)), rfl, bel.frame _, fun h => by cases h⟩

theorem overR : Rows.lawS8887ARanksRow.holds Yba.pinned (OpenSpec.ofChange Rows.lawS8887ARanksSpec) :=
  OpenClaim.holds_of_wide 4 Yba.f4 rfl rfl rfl rfl rfl rfl rfl ⟨rfl, rfl, rfl, rfl, rfl⟩ rfl rfl rfl rfl rfl (by kernel_rfl) Yba.func4 (by kernel_rfl)
    (of_decide_eq_true (by kernel_rfl)) (by unfold Func.isWrapper; first | (rw [if_pos (by decide +kernel)]; kernel_rfl) | (rw [if_neg (by decide +kernel)]; exact ⟨rfl, rfl⟩))
    (fun os started H enc _ => liftedR os started H enc)

theorem lawS8887ARanks_proved : Rows.LawS8887ARanksSaid := overR
end Go.Proofs.Ybulkgbai
