import Derived.Test.YbulkgbaiDoorBase
namespace Go.Zz
open Go.RowKit Go.Builtin
section
variable {P : Program} (w : World)

theorem i64_wrap_nat (m : Nat) (h : m ≤ 9223372036854775807) : IntKind.i64.wrap (m : Int) = (m : Int) := by rw [IntKind.wrap_i64]; omega

theorem run_zeros_room (t it ty e : TypeId) (k : IntKind) (i : TypeInfo) (z : Value) (ht : P.underlying t = some (.slice e)) (hit : P.underlying it = some (.int k)) (hi : P.info? e = some i) (hz : i.zero = some z)
    (g sLen sCap : Nat) (cur : Array Value) (hg : w.heap[g]? = some (.cells cur e (0, 0))) (m : Nat) (hm : 0 < m) (hs : i.size = 1) (hzs : z.cells.size = 1) (h1 : ∀ u ∈ (zeroCells z.cells m).toList, u.oneCell' = true)
    (h63 : m ≤ 9223372036854775807) (h48 : m * i.bytes ≤ 281474976710656) (hroom : sLen + m ≤ sCap) (hfit : sLen + m ≤ cur.size) :
    (Builtin.append_ #[t, it] ty #[.slice (some ⟨g, 0, none⟩) sLen sCap, .int .i64 (m : Int)]).run P w =
      .ok (.slice (some ⟨g, 0, none⟩) (sLen + m) sCap) (w.setRow g (cur.toList.take sLen ++ (zeroCells z.cells m).toList ++ cur.toList.drop (sLen + m)).toArray) := by
  have hl : (zeroCells z.cells m).toList.length = m := by rw [Array.length_toList, size_zeroCells, hzs, Nat.mul_one]
  have hst := run_storeCells_at P g sLen e (zeroCells z.cells m).toList 0 cur w hg (by rw [hl]; omega) h1
  have hw := i64_wrap_nat m h63
  have h0 : ¬ ((m : Int) < 0) := by omega
  have h48' : ¬ (281474976710656 < (m : Int) * (i.bytes : Int)) := by
    rw [← Int.natCast_mul]
    omega
  have hm0 : m ≠ 0 := by omega
  simp only [Nat.add_zero, hl] at hst
  simp [Builtin.append_, run_underlying ht, run_underlying hit, sizeOf, typeInfo, zeroValue, hi, hz, hs, hw, h48', hm0, asInt, asIntOf, hroom, Addr.add_lit, hst, h0]

theorem run_zeros_nil (t it ty e : TypeId) (k : IntKind) (i : TypeInfo) (z : Value) (ht : P.underlying t = some (.slice e)) (hit : P.underlying it = some (.int k)) (hi : P.info? e = some i) (hz : i.zero = some z)
    (m : Nat) (hm : 0 < m) (hs : i.size = 1) (h63 : m ≤ 9223372036854775807) (h48 : m * i.bytes ≤ 281474976710656) :
    (Builtin.append_ #[t, it] ty #[.slice none 0 0, .int .i64 (m : Int)]).run P w =
      .ok (.slice (some ⟨w.heap.size, 0, none⟩) m (grownCap w m 0 e)) (w.drew.alloc (.cells (zeroCells z.cells m ++ zeroCells z.cells (grownCap w m 0 e - m)) e)) := by
  have hw := i64_wrap_nat m h63
  have h0 : ¬ ((m : Int) < 0) := by omega
  have h48' : ¬ (281474976710656 < (m : Int) * (i.bytes : Int)) := by
    rw [← Int.natCast_mul]
    omega
  have h48'' : ¬ (281474976710656 < Builtin.nextslicecap m 0 * i.bytes) := by rw [nextslicecap_zero hm]; omega
  have h63' : ¬ (9223372036854775807 < (m : Int)) := by omega
  have hm0 : m ≠ 0 := by omega
  simp [Builtin.append_, run_underlying ht, run_underlying hit, sizeOf, typeInfo, zeroValue, hi, hz, hs, hw, h48', h48'', h63', hm0, asInt, asIntOf, Question.forced, run_firstCells_none, newRow, grownCap, h0]

theorem run_zeros_grow (t it ty e : TypeId) (k : IntKind) (i : TypeInfo) (z : Value) (ht : P.underlying t = some (.slice e)) (hit : P.underlying it = some (.int k)) (hi : P.info? e = some i) (hz : i.zero = some z)
    (b : Addr) (sLen sCap : Nat) (olds : List Value) (hlo : olds.length = sLen) (holds : ∀ j v, olds[j]? = some v → w.cell? (b.add j) = some v)
    (m : Nat) (hm : 0 < m) (hs : i.size = 1) (hg : sCap < sLen + m) (h63 : ((sLen + m : Nat) : Int) ≤ 9223372036854775807) (h48 : m * i.bytes ≤ 281474976710656) (hfit : Builtin.nextslicecap (sLen + m) sCap * i.bytes ≤ 281474976710656) :
    (Builtin.append_ #[t, it] ty #[.slice (some b) sLen sCap, .int .i64 (m : Int)]).run P w =
      .ok (.slice (some ⟨w.heap.size, 0, none⟩) (sLen + m) (grownCap w (sLen + m) sCap e))
        (w.drew.alloc (.cells (olds.toArray ++ zeroCells z.cells m ++ zeroCells z.cells (grownCap w (sLen + m) sCap e - (sLen + m))) e)) := by
  have hw := i64_wrap_nat m (by omega)
  have h0 : ¬ ((m : Int) < 0) := by omega
  have hn : ¬ (sLen + m ≤ sCap) := by omega
  have h48' : ¬ (281474976710656 < (m : Int) * (i.bytes : Int)) := by
    rw [← Int.natCast_mul]
    omega
  have h48'' : ¬ (281474976710656 < Builtin.nextslicecap (sLen + m) sCap * i.bytes) := by omega
  have h63' : ¬ (9223372036854775807 < ((sLen : Int) + (m : Int))) := by omega
  have hm0 : m ≠ 0 := by omega
  have hfo := run_firstCells_some (P := P) w.drew 1 sLen b sLen sCap olds (by omega) (by simpa using holds)
  simp [Builtin.append_, run_underlying ht, run_underlying hit, sizeOf, typeInfo, zeroValue, hi, hz, hs, hw, h48', h48'', h63', hn, hm0, asInt, asIntOf, Question.forced, hfo, newRow, grownCap, h0]
end

theorem zeroCells_vals (z : Value) (hz : z.cells = #[z]) (m : Nat) : (zeroCells z.cells m).toList = vals m (fun _ => z) := by
  rw [hz]
  simp [zeroCells, vals, Nat.mod_one]

/-- append(v, make([]T, m)...), v the call's own, T of one cell: an equation. -/
theorem run_append_zeros (P : Program) (w : World) (B : Nat) (t it ty e : TypeId) (k : IntKind) (z : Value) (bytes : Nat) (ht : P.underlying t = some (.slice e)) (hit : P.underlying it = some (.int k)) (hinfo : (P.info? e).map (fun i => (i.zero, i.size, i.bytes)) = some (some z, 1, bytes))
    (hzc : z.cells = #[z]) (h1 : z.oneCell' = true) (v : Value) (n : Nat) (f : Nat → Value) (hown : Vec w B e 1 v n f) (m : Nat) (hm : 0 < m) (f' : Nat → Value) (hf1 : ∀ j, j < n → f' j = f j) (hf2 : ∀ j, j < m → f' (n + j) = z)
    (h63 : n + m ≤ maxLen) (hbytes : (n + m) * bytes ≤ 140737488355328) (hbase : B ≤ w.heap.size) :
    ∃ (b cap : Nat) (w' : World), (Builtin.append_ #[t, it] ty #[v, .int .i64 (m : Int)]).run P w = .ok (.slice (some ⟨b, 0, none⟩) (n + m) cap) w' ∧
      Vec w' B e 1 (.slice (some ⟨b, 0, none⟩) (n + m) cap) (n + m) f' ∧ w.grownBy w' v.ownBlock ∧ (v.ownBlock = some b ∨ b = w.heap.size) := by
  obtain ⟨i, hi, hzz⟩ := Option.map_eq_some_iff.1 hinfo
  simp only [Prod.mk.injEq] at hzz
  obtain ⟨hz0, hs, hb⟩ := hzz
  subst hb
  have hsmall : n + m ≤ 9223372036854775807 := by simp only [maxLen] at h63; omega
  have hmb : m * i.bytes ≤ 140737488355328 := Nat.le_trans (Nat.mul_le_mul_right _ (by omega)) hbytes
  have hvals : vals n f ++ vals m (fun _ => z) = vals (n + m) f' := vals_append n m f (fun _ => z) f' hf1 hf2
  have hzv := zeroCells_vals z hzc
  have hzs : z.cells.size = 1 := by rw [hzc]; rfl
  have hx1 : (vals (n * 1) f).length = n * 1 := vals_length _ _
  have grown : ∀ (old : Nat), old < n + m → ∀ (row : Option Nat),
      Vec (w.drew.alloc (.cells ((vals n f).toArray ++ zeroCells z.cells m ++ zeroCells z.cells (grownCap w (n + m) old e - (n + m))) e)) B e 1
        (.slice (some ⟨w.heap.size, 0, none⟩) (n + m) (grownCap w (n + m) old e)) (n + m) f' ∧
      w.grownBy (w.drew.alloc (.cells ((vals n f).toArray ++ zeroCells z.cells m ++ zeroCells z.cells (grownCap w (n + m) old e - (n + m))) e)) row := by
    intro old ho row
    have hge := grownCap_ge w (n + m) old e
    have hcm : grownCap w (n + m) old e ≤ maxLen := grownCap_le_maxLen w (n + m) old e h63
    refine ⟨⟨vals_length _ _, .inr ⟨w.heap.size, _, _, rfl, hbase, heap_alloc_new w.drew _, hge, hcm, ?_, ?_⟩⟩, ⟨rfl, rfl, rfl, by simp, fun k hk _ => Below.heap_alloc w.drew _ k hk⟩⟩
    · simp only [Array.size_append, List.size_toArray, size_zeroCells, hzs, vals_length]
      omega
    · simp only [Array.toList_append, hzv, Nat.mul_one]
      rw [hvals, List.take_left' (vals_length _ _)]
  rcases hown.2 with ⟨rfl, rfl⟩ | ⟨g, cap, cur, rfl, hbg, hg, hnc, hcm, hcs, htake⟩
  · have hr := run_zeros_nil (P := P) w t it ty e k i z ht hit hi hz0 m hm hs (by omega) (by omega)
    have hgr := grown 0 (by omega) (Value.ownBlock (.slice none 0 0))
    simp only [Nat.zero_add, vals, List.range_zero, List.map_nil, Array.empty_append] at hgr ⊢
    exact ⟨_, _, _, hr, hgr.1, hgr.2, .inr rfl⟩
  · rw [Nat.mul_one] at hcs htake
    by_cases hroom : n + m ≤ cap
    · have hr := run_zeros_room (P := P) w t it ty e k i z ht hit hi hz0 g n cap cur hg m hm hs hzs (fun u hu => by rw [hzv] at hu; simp only [vals, List.mem_map] at hu; obtain ⟨_, _, rfl⟩ := hu; exact h1) (by omega) (by omega) hroom (by omega)
      refine ⟨_, _, _, hr, ⟨vals_length _ _, .inr ⟨g, cap, _, rfl, hbg, setRow_heap w g cur _ e _ hg, hroom, hcm, ?_, ?_⟩⟩, ⟨rfl, rfl, rfl, by simp, fun k _ hk => setRow_other w g k _ (fun e => hk (by simp [Value.ownBlock, e]))⟩, .inl rfl⟩
      · simp only [List.size_toArray, List.length_append, List.length_take, List.length_drop, Array.length_toList, size_zeroCells, hzs]
        omega
      · rw [htake, hzv, Nat.mul_one, hvals, List.take_left' (vals_length _ _)]
    · have holds : ∀ j u, (vals n f)[j]? = some u → w.cell? ((⟨g, 0, none⟩ : Addr).add j) = some u := by
        have := World.ownsRow.cells hown (g := g) rfl
        rwa [Nat.mul_one] at this
      have hr := run_zeros_grow (P := P) w t it ty e k i z ht hit hi hz0 ⟨g, 0, none⟩ n cap (vals n f) (vals_length _ _) holds m hm hs (by omega) (by omega) (by omega) (growslice_fits (by omega) hbytes)
      have hgr := grown cap (by omega) (Value.ownBlock (.slice (some ⟨g, 0, none⟩) n cap))
      exact ⟨_, _, _, hr, hgr.1, hgr.2, .inr rfl⟩
end Go.Zz
