import Derived.Test.YbulkgbaiLawC
import Derived.Test.YbulkgbaiOpen
import Derived.Test.YbulkgbaiChecked
import Derived.Test.YbulkgbaiRows
namespace Go.Proofs.Ybulkgbai
open Go.ChangeShapes Go.WideShapes Go.ChangeAt Go.RowKit Go.Zz

theorem ownC : ownKnob Yba.prog.godebug = none := by kernel_rfl
theorem cells63C : Yba.prog.cellsOf 63 = 4 := by kernel_rfl
theorem cells74C : Yba.prog.cellsOf 74 = 3 := by kernel_rfl
theorem bytes63C : Yba.prog.bytesOf 63 = 24 := by kernel_rfl
theorem bytes74C : Yba.prog.bytesOf 74 = 24 := by kernel_rfl
theorem bytes36C : Yba.prog.bytesOf 36 = 4 := by kernel_rfl
theorem bytes37C : Yba.prog.bytesOf 37 = 8 := by kernel_rfl

theorem wf_u32 {x : Int} (h : (Lit.int .u32 x).wf = true) : 0 ≤ x ∧ x ≤ 4294967295 := by
  simp only [Lit.wf, Bool.and_eq_true, decide_eq_true_eq] at h
  exact h
theorem wf_u64 {x : Int} (h : (Lit.int .u64 x).wf = true) : 0 ≤ x ∧ x ≤ 18446744073709551615 := by
  simp only [Lit.wf, Bool.and_eq_true, decide_eq_true_eq] at h
  exact h
theorem wf_u8 {x : Int} (h : (Lit.int .u8 x).wf = true) : 0 ≤ x ∧ x ≤ 255 := by
  simp only [Lit.wf, Bool.and_eq_true, decide_eq_true_eq] at h
  exact h
theorem wf_i64 {x : Int} (h : (Lit.int .i64 x).wf = true) : -9223372036854775808 ≤ x ∧ x ≤ 9223372036854775807 := by
  simp only [Lit.wf, Bool.and_eq_true, decide_eq_true_eq] at h
  exact h

set_option maxRecDepth 100000 in
theorem walkC_long (fr0 n ent : Int) (a0 a1 a2 a3 : Option Addr) (L0 c0 L1 c1 L2 c2 L3 c3 : Nat) (w : World) (hL : 4096 < L0 + L1 + L2 + L3) (hs : L0 + L1 + L2 + L3 ≤ 9223372036854775807) :
    Calls Yba.prog 5 #[.int .u32 fr0, .int .u64 n, .slice a0 L0 c0, .slice a1 L1 c1, .slice a2 L2 c2, .slice a3 L3 c3, .int .i64 ent] w fun x w' => x = .returned (.bool true) ∧ Below w.heap.size w w' := by
  have hd1 : decide ((4096 : Int) < (L0 : Int) + (L1 : Int) + (L2 : Int) + (L3 : Int)) = true := decide_eq_true (by omega)
  go_enter Yba.func5, Yba.ntmps5
  go_wp2
  go_ret
  exact ⟨rfl, Below.refl _ _⟩

set_option maxRecDepth 100000 in
theorem liftedC (os : Os) (started : os.Started) (H : Type) (enc : TypeId × Value → H) :
    ReturnsInHanded {} Yba.checked os 5 .any (Rows.lawS8887CWholeSpec.pre6 enc Yba.prog Yba.f5 Rows.lawS8887CWholeRow.domain false) (Rows.lawS8887CWholeSpec.post enc Yba.prog Yba.f5 false true false false) := by
  refine returnsInHanded_of_change_sized (C := Yba.checked) ownC started (by kernel_rfl) Yba.func5
    (ChangeSpec.witness6 (enc := enc) (C := Yba.checked) false ⟨#[], #[.int .u32 0, .int .u64 0, .slice none 0 0, .slice none 0 0, .slice none 0 0, .slice none 0 0, .int .i64 0], []⟩ 8 (by kernel_rfl) (by kernel_rfl) (by kernel_rfl) (by kernel_rfl)) ?_
  intro W base args ds gs before hval0 hW hcnd hsz0 _
  have hsz : (DataW.weightsEach Yba.prog (Yba.f5.params.toList ++ Rows.lawS8887CWholeSpec.plain.varTypes Yba.prog) (ds ++ gs)).all (· ≤ reachBytes) = true := hsz0
  have hval : ∀ (j : Nat) t v, Yba.f5.params[j]? = some t → args[j]? = some v → Value.okWide Yba.prog W .any base t v := hval0
  have hW' := hW
  obtain ⟨p, q, hA0, hV, rfl, hfz, hnd⟩ := hW
  have hA : DataW.TrodAll enc Yba.prog W 0 (fun _ => true) true Yba.f5.params.toList args.toList ds p := hA0
  rw [Yba.params5] at hA hval hsz
  obtain ⟨v0, vs0, d0, ds0, p0, q0, hargs, rfl, rfl, h0, r0⟩ := trodAll_cons hA
  obtain ⟨v1, vs1, d1, ds1, p1, q1, rfl, rfl, rfl, h1, r1⟩ := trodAll_cons r0
  obtain ⟨v2, vs2, d2, ds2, p2, q2, rfl, rfl, rfl, h2, r2⟩ := trodAll_cons r1
  obtain ⟨v3, vs3, d3, ds3, p3, q3, rfl, rfl, rfl, h3, r3⟩ := trodAll_cons r2
  obtain ⟨v4, vs4, d4, ds4, p4, q4, rfl, rfl, rfl, h4, r4⟩ := trodAll_cons r3
  obtain ⟨v5, vs5, d5, ds5, p5, q5, rfl, rfl, rfl, h5, r5⟩ := trodAll_cons r4
  obtain ⟨v6, vs6, d6, ds6, p6, q6, rfl, rfl, rfl, h6, r6⟩ := trodAll_cons r5
  obtain ⟨rfl, rfl, rfl⟩ := trodAll_nil r6
  obtain rfl : args = #[v0, v1, v2, v3, v4, v5, v6] := by cases args; simp_all
  obtain ⟨rfl, rfl⟩ := trodVars_none hV
  obtain ⟨fr0, rfl, rfl, rfl, w0⟩ := open_int Yba.underlying36 (hval 0 36 v0 rfl rfl) h0
  obtain ⟨n0, rfl, rfl, rfl, w1⟩ := open_int Yba.underlying37 (hval 1 37 v1 rfl rfl) h1
  obtain ⟨a0, len0, cap0, rfl⟩ := okWide_slice Yba.underlying38 (hval 2 38 v2 rfl rfl)
  obtain ⟨a1, len1, cap1, rfl⟩ := okWide_slice Yba.underlying39 (hval 3 39 v3 rfl rfl)
  obtain ⟨a2, len2, cap2, rfl⟩ := okWide_slice Yba.underlying40 (hval 4 40 v4 rfl rfl)
  obtain ⟨a3, len3, cap3, rfl⟩ := okWide_slice Yba.underlying41 (hval 5 41 v5 rfl rfl)
  obtain ⟨en, rfl, rfl, rfl, w6⟩ := open_int Yba.underlying3 (hval 6 3 v6 rfl rfl) h6
  have lt2 : ∀ x ∈ p2, x.block < W.heap.size := by obtain ⟨m, hm⟩ := h2; exact DataW.trod_lt m _ _ _ hm
  have lt3 : ∀ x ∈ p3, x.block < W.heap.size := by obtain ⟨m, hm⟩ := h3; exact DataW.trod_lt m _ _ _ hm
  have lt4 : ∀ x ∈ p4, x.block < W.heap.size := by obtain ⟨m, hm⟩ := h4; exact DataW.trod_lt m _ _ _ hm
  have lt5 : ∀ x ∈ p5, x.block < W.heap.size := by obtain ⟨m, hm⟩ := h5; exact DataW.trod_lt m _ _ _ hm
  obtain ⟨_, _, _, b0, o0, T0, ha0, hT0, wT0⟩ := open_ints_row Yba.underlying38 Yba.underlying36 (by kernel_rfl) h2
  obtain ⟨_, _, _, b1, o1, T1, ha1, hT1, wT1⟩ := open_ints_row Yba.underlying39 Yba.underlying37 (by kernel_rfl) h3
  obtain ⟨_, _, _, b2, o2, ha2, hx2⟩ := open_rows Yba.underlying40 (by rw [cells63C]; omega) h4
  obtain ⟨_, _, _, b3, o3, ha3, hx3⟩ := open_rows Yba.underlying41 (by rw [cells74C]; omega) h5
  obtain ⟨F, hF, wF⟩ := field_int Yba.underlying63 cells63C hx2 0 _ rfl (by kernel_rfl) (by decide) Yba.underlying36
  obtain ⟨Nn, hNn, wNn⟩ := field_int Yba.underlying63 cells63C hx2 1 _ rfl (by kernel_rfl) (by decide) Yba.underlying37
  obtain ⟨BA, hBA, wBA⟩ := field_int Yba.underlying63 cells63C hx2 2 _ rfl (by kernel_rfl) (by decide) Yba.underlying5
  obtain ⟨BP, hBP, wBP⟩ := field_int Yba.underlying63 cells63C hx2 3 _ rfl (by kernel_rfl) (by decide) Yba.underlying5
  obtain ⟨ID, hID, wID⟩ := field_int Yba.underlying74 cells74C hx3 0 _ rfl (by kernel_rfl) (by decide) Yba.underlying36
  obtain ⟨LK, hLK, _⟩ := field_int Yba.underlying74 cells74C hx3 1 _ rfl (by kernel_rfl) (by decide) Yba.underlying3
  obtain ⟨LT, hLT, wLT⟩ := field_int Yba.underlying74 cells74C hx3 2 _ rfl (by kernel_rfl) (by decide) Yba.underlying37
  have s0 := slice_reach (j := 2) hsz rfl rfl Yba.underlying38 bytes36C h2
  have s1 := slice_reach (j := 3) hsz rfl rfl Yba.underlying39 bytes37C h3
  have s2 := slice_reach (j := 4) hsz rfl rfl Yba.underlying40 bytes63C h4
  have s3 := slice_reach (j := 5) hsz rfl rfl Yba.underlying41 bytes74C h5
  clear hA0 hval0 hsz0
  have key : Calls Yba.prog 5 #[.int .u32 fr0, .int .u64 n0, .slice a0 len0 cap0, .slice a1 len1 cap1, .slice a2 len2 cap2, .slice a3 len3 cap3, .int .i64 en] W fun e w' => e = .returned (.bool true) ∧ Below W.heap.size W w' := by
    by_cases hl : 4096 < len0 + len1 + len2 + len3
    · exact walkC_long fr0 n0 en a0 a1 a2 a3 len0 cap0 len1 cap1 len2 cap2 len3 cap3 W hl (by omega)
    · have g0 := wf_u32 w0
      have g1 := wf_u64 w1
      have g6 := wf_i64 w6
      obtain ⟨fr, rfl⟩ := Int.eq_ofNat_of_zero_le g0.1
      obtain ⟨n, rfl⟩ := Int.eq_ofNat_of_zero_le g1.1
      refine walkC fr n en a0 a1 a2 a3 len0 cap0 b0 o0 len1 cap1 b1 o1 len2 cap2 b2 o2 len3 cap3 b3 o3 (fun i => (T0 i).toNat) (fun i => (T1 i).toNat) (fun i => (F i).toNat) (fun i => (Nn i).toNat) (fun i => (BA i).toNat) (fun i => (BP i).toNat) (fun i => (ID i).toNat) (fun i => (LT i).toNat) LK W (by omega) (by omega) (by rw [IntKind.wrap_i64]; omega) (by omega)
        (fun h => (ha0 h).1) (fun i hi => ?_) (fun h => (ha1 h).1) (fun i hi => ?_) (fun h => (ha2 h).1) (fun i hi => ?_) (fun h => (ha3 h).1) (fun i hi => ?_)
      · rw [Int.toNat_of_nonneg (wf_u32 (wT0 i hi)).1]
        exact hT0 i hi
      · have := wf_u64 (wT1 i hi)
        rw [Int.toNat_of_nonneg this.1]
        exact ⟨hT1 i hi, by omega⟩
      · have g2 := wf_u64 (wNn i hi)
        rw [Int.toNat_of_nonneg (wf_u32 (wF i hi)).1, Int.toNat_of_nonneg g2.1, Int.toNat_of_nonneg (wf_u8 (wBA i hi)).1, Int.toNat_of_nonneg (wf_u8 (wBP i hi)).1]
        exact ⟨hF i hi, hNn i hi, hBA i hi, hBP i hi, by omega⟩
      · rw [Int.toNat_of_nonneg (wf_u32 (wID i hi)).1, Int.toNat_of_nonneg (wf_u64 (wLT i hi)).1]
        exact ⟨hID i hi, hLK i hi, hLT i hi⟩
  refine key.mono fun e W' ⟨he, bel⟩ => ?_
  subst he
  exact ⟨_, rfl, _, _, _, [], _, [], hW', trodAll_mk1 (shut_bool Yba.underlying4 _), (trodAll_cons_mk (shut_int Yba.underlying36 w0) (trodAll_cons_mk (shut_int Yba.underlying37 w1) (trodAll_cons_mk (Below.trod laidOut (by kernel_rfl) (of_decide_eq_true (by kernel_rfl)) h2 bel lt2) (trodAll_cons_mk (Below.trod laidOut (by kernel_rfl) (of_decide_eq_true (by kernel_rfl)) h3 bel lt3)
    (trodAll_cons_mk (Below.trod laidOut (by kernel_rfl) (of_decide_eq_true (by kernel_rfl)) h4 bel lt4) (trodAll_cons_mk (Below.trod laidOut (by kernel_rfl) (of_decide_eq_true (by kernel_rfl)) h5 bel lt5) (trodAll_cons_mk (shut_int Yba.underlying3 w6) trodAll_mk0))))))), rfl, bel.frame _, fun h => by cases h⟩

theorem overC : Rows.lawS8887CWholeRow.holds Yba.pinned (OpenSpec.ofChange Rows.lawS8887CWholeSpec) :=
  OpenClaim.holds_of_wide 5 Yba.f5 rfl rfl rfl rfl rfl rfl rfl ⟨rfl, rfl, rfl, rfl, rfl⟩ rfl rfl rfl rfl rfl (by kernel_rfl) Yba.func5 (by kernel_rfl)
    (of_decide_eq_true (by kernel_rfl)) (by unfold Func.isWrapper; first | (rw [if_pos (by decide +kernel)]; kernel_rfl) | (rw [if_neg (by decide +kernel)]; exact ⟨rfl, rfl⟩))
    (fun os started H enc _ => liftedC os started H enc)

theorem lawS8887CWhole_proved : Rows.LawS8887CWholeSaid := overC
end Go.Proofs.Ybulkgbai
