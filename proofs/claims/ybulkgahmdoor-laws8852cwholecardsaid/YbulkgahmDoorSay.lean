import Derived.Test.YbulkgahmDoorVal
namespace Go.Proofs.YbulkgahmDoor
open Go.RowKit Go.Zz
variable {Hb tb n : Nat} {ix : Nat → Int} {ob oc om : Nat → Nat} {ops : Nat → Nat → OpV}

theorem below_alloc (w : World) (o : Obj) : Below w.heap.size w (w.alloc o) := (Below.refl _ _).alloc (Nat.le_refl _) _

set_option maxHeartbeats 2000000 in
/-- (*text).value -/
theorem value_any (w0 : World) (b : Nat) (l : List UInt8) (o : OpV) (s : Option Nat) (w : World) (H : Hist w0 Hb tb n ix ob oc om ops) (h : Tx w0 b (.pointer (some ⟨Hb, 0, none⟩)) w l) (ho : i64 o.val) (hs : ∀ t, s = some t → t < n) (hlen : l.length + 100 ≤ cap46) :
    Calls Ybad.prog 19 #[.pointer (some ⟨b, 0, none⟩), o.v, .int .i32 (wrI s)] w fun e w' => e = .returned (.tuple #[]) ∧ Tx w0 b (.pointer (some ⟨Hb, 0, none⟩)) w' (l ++ valL ix o s) := by
  have hll := Lib.itoa_length_le _ ho.1 ho.2
  have hf : ∀ w2, Below w.heap.size w w2 → Calls Ybad.prog 11 #[.int .i64 o.val, .int .i64 10] w2 _ := fun w2 hb => fmt_any o.val ho w2 ((H.tab.grow h.1).grow hb)
  have HF := hid hf
  have HT := hid h
  have HH := hid H
  have HL := hid hlen
  obtain ⟨wr, key, val, nl⟩ := o
  unfold OpV.v
  simp only at HF hll ⊢
  clear hf h H hlen
  obtain ⟨V, hV⟩ : ∃ V, V = Lib.itoa val := ⟨_, rfl⟩
  rw [← hV] at HF hll
  have HV := hid hV
  clear hV
  cases s with
  | none =>
    unfold wrI
    cases nl with
    | true =>
      go_enter Ybad.func19, Ybad.ntmps19
      go_wp2_with (go_at_call 21; refine (put1 w0 b _ l [110, 105, 108] _ _ (by simp) (HT.out.grow (below_alloc _ _)) (by have := HL.out; simp; omega)).mono ?_; rintro e w1 ⟨rfl, hT1⟩)
      go_end0
      exact ⟨rfl, by simpa [valL, numL, fromL] using hT1⟩
    | false =>
      go_enter Ybad.func19, Ybad.ntmps19
      go_wp2_with (first
        | (go_at_call 11; refine (HF.out _ (below_alloc _ _)).mono ?_; rintro e w1 ⟨rfl, hb⟩; have hT0 := hid ((HT.out.grow (below_alloc w (Obj.cells #[.bool wr, .int .i64 key, .int .i64 val, .bool false] 35))).grow hb); clear hb)
        | (go_at_call 21; refine (put1 w0 b _ l V _ _ (by simp) hT0.out (by have := HL.out; omega)).mono ?_; rintro e w2 ⟨rfl, hT2⟩))
      go_end0
      exact ⟨rfl, by simpa [valL, numL, fromL, HV.out] using hT2⟩
  | some t =>
    have ht := hs t rfl
    unfold wrI
    clear hs
    cases nl with
    | true =>
      go_enter Ybad.func19, Ybad.ntmps19
      go_wp2_with (first
        | (go_at_call 22; refine (txn_any w0 b _ t _ HH.out hT2 (by have := HL.out; simp; omega) ht).mono ?_; rintro e w3 ⟨rfl, hT3⟩)
        | (go_at_call 21; refine (put1 w0 b _ l [110, 105, 108] _ _ (by simp) (HT.out.grow (below_alloc _ _)) (by have := HL.out; simp; omega)).mono ?_; rintro e w1 ⟨rfl, hT1⟩)
        | (go_at_call 21; refine (put1 w0 b _ (l ++ [110, 105, 108]) [32, 102, 114, 111, 109, 32] _ _ (by simp) hT1 (by have := HL.out; simp; omega)).mono ?_; rintro e w2 ⟨rfl, hT2⟩))
      go_end0
      exact ⟨rfl, by simpa [valL, numL, fromL] using hT3⟩
    | false =>
      go_enter Ybad.func19, Ybad.ntmps19
      go_wp2_with (first
        | (go_at_call 11; refine (HF.out _ (below_alloc _ _)).mono ?_; rintro e w1 ⟨rfl, hb⟩; have hT0 := hid ((HT.out.grow (below_alloc w (Obj.cells #[.bool wr, .int .i64 key, .int .i64 val, .bool false] 35))).grow hb); clear hb)
        | (go_at_call 22; refine (txn_any w0 b _ t _ HH.out hT2 (by have := HL.out; simp; omega) ht).mono ?_; rintro e w3 ⟨rfl, hT3⟩)
        | (go_at_call 21; refine (put1 w0 b _ (l ++ V) [32, 102, 114, 111, 109, 32] _ _ (by simp) hT1 (by have := HL.out; simp; omega)).mono ?_; rintro e w2 ⟨rfl, hT2⟩)
        | (go_at_call 21; refine (put1 w0 b _ l V _ _ (by simp) hT0.out (by have := HL.out; omega)).mono ?_; rintro e w2 ⟨rfl, hT1⟩))
      go_end0
      exact ⟨rfl, by simpa [valL, numL, fromL, HV.out] using hT3⟩

/-- "T<i> reads key <k> = " -/
def readsL (ix : Nat → Int) (t : Nat) (key : Int) : List UInt8 := nameL (ix t) ++ ([32, 114, 101, 97, 100, 115, 32, 107, 101, 121, 32] ++ Lib.itoa key ++ [32, 61, 32])

set_option maxHeartbeats 2000000 in
/-- (*text).reads -/
theorem reads_any (w0 : World) (b : Nat) (l : List UInt8) (t : Nat) (key : Int) (w : World) (H : Hist w0 Hb tb n ix ob oc om ops) (h : Tx w0 b (.pointer (some ⟨Hb, 0, none⟩)) w l) (hk : i64 key) (ht : t < n) (hlen : l.length + 100 ≤ cap46) :
    Calls Ybad.prog 18 #[.pointer (some ⟨b, 0, none⟩), .int .i32 (t : Int), .int .i64 key] w fun e w' => e = .returned (.tuple #[]) ∧ Tx w0 b (.pointer (some ⟨Hb, 0, none⟩)) w' (l ++ readsL ix t key) := by
  have hll := Lib.itoa_length_le _ hk.1 hk.2
  have hnl := nameL_length _ (H.ixr t ht)
  have HT := hid h
  have HH := hid H
  have HL := hid hlen
  clear h H hlen
  obtain ⟨V, hV⟩ : ∃ V, V = Lib.itoa key := ⟨_, rfl⟩
  have hf : ∀ w2, Tab w2 → Calls Ybad.prog 11 #[.int .i64 key, .int .i64 10] w2 _ := fun w2 hb => fmt_any key hk w2 hb
  rw [← hV] at hll hf
  have HV := hid hV
  have HF := hid hf
  clear hV hf
  go_enter Ybad.func18, Ybad.ntmps18
  go_wp2_with (first
    | (go_at_call 22; refine (txn_any w0 b _ t _ HH.out HT.out (by have := HL.out; omega) ht).mono ?_; rintro e w1 ⟨rfl, hT1⟩)
    | (go_at_call 11; refine (HF.out _ (HH.out.tab.grow hT1.1)).mono ?_; rintro e w2 ⟨rfl, hb2⟩; have hT2 := hT1.grow hb2)
    | (go_at_call 21; refine (put3 w0 b _ _ [32, 114, 101, 97, 100, 115, 32, 107, 101, 121, 32] V [32, 61, 32] _ _ (by simp) hT2 (by have := HL.out; simp; omega)).mono ?_; rintro e w3 ⟨rfl, hT3⟩))
  go_end0
  exact ⟨rfl, by simpa [readsL, HV.out] using hT3⟩

end Go.Proofs.YbulkgahmDoor
