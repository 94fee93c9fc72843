import Derived.Test.YbulkgahmDoorStep
namespace Go.Proofs.YbulkgahmDoor
open Go.RowKit Go.Zz
variable {Hb tb n : Nat} {ix : Nat → Int} {ob oc om : Nat → Nat} {ops : Nat → Nat → OpV}

def say2 (ix : Nat → Int) (op : Nat → OpV) (key : Int) (f t : Nat) (s : Option Nat) : List UInt8 :=
  nameL (ix f) ++ ([32, 97, 110, 100, 32] ++ (nameL (ix t) ++ ([32, 114, 101, 97, 100, 32, 107, 101, 121, 32] ++ (Lib.itoa key ++ ([32, 61, 32] ++ (valL ix (op t) s ++ ([44, 32, 97, 110, 100, 32] ++ (nameL (ix t) ++ [32, 119, 114, 105, 116, 101, 115, 32, 105, 116]))))))))

set_option maxHeartbeats 4000000 in
set_option maxRecDepth 100000 in
theorem step2_any (w0 : World) (b sb f t : Nat) (s : Option Nat) (cv : Value) (key : Int) (fq : Nat → Nat) (l : List UInt8) (w : World) (H : Hist w0 Hb tb n ix ob oc om ops) (S : StepAt w0 sb f t 2 s cv)
    (h : Tx w0 b (.pointer (some ⟨Hb, 0, none⟩)) w l) (hF : Firsts ops om n key fq) (hk : i64 key) (hf : f < n) (ht : t < n) (hs : ∀ t, s = some t → t < n) (hlen : l.length + 1000 ≤ cap46) :
    Calls Ybad.prog 9 #[.pointer (some ⟨b, 0, none⟩), .pointer (some ⟨sb, 0, none⟩), .int .i64 key] w fun e w' => e = .returned (.tuple #[]) ∧ Tx w0 b (.pointer (some ⟨Hb, 0, none⟩)) w' (l ++ say2 ix (fun t => ops t (fq t)) key f t s) := by
  obtain ⟨a0, a1, _, a3, _, _⟩ := S.grow h.1
  have hp : w.cell? ⟨b, 2, none⟩ = some (.pointer (some ⟨Hb, 0, none⟩)) := by
    obtain ⟨_, _, p, v, _, hbk, _⟩ := h
    rw [Lib.cell_of_heap hbk]; rfl
  have HS := hid S
  have HT0 := hid h
  have HH := hid H
  have HF := hid hF
  have hn := H.hn
  have l1 := nameL_length _ (H.ixr f hf)
  have l2 := nameL_length _ (H.ixr t ht)
  have l3 := Lib.itoa_length_le _ hk.1 hk.2
  have l4 := valL_length ix (ops t (fq t)) s (H.opr t ht _ (hF t ht).lt) (fun t' h' => H.ixr t' (hs t' h'))
  have HB : ∀ x : Nat, x ≤ l.length + 1000 → x ≤ cap46 := fun x hx => Nat.le_trans hx hlen
  obtain ⟨V, hV⟩ : ∃ V, V = Lib.itoa key := ⟨_, rfl⟩
  have hfm : ∀ w2, Tab w2 → Calls Ybad.prog 11 #[.int .i64 key, .int .i64 10] w2 _ := fun w2 hb => fmt_any key hk w2 hb
  rw [← hV] at l3 hfm
  have HFm := hid hfm
  have HV := hid hV
  clear h H hlen hF S hfm hV
  go_enter Ybad.func9, Ybad.ntmps9
  go_wp2_with (first
    | (go_at_call 21; refine (put3 w0 b _ _ [32, 114, 101, 97, 100, 32, 107, 101, 121, 32] V [32, 61, 32] _ _ (by simp) HT4.out (HB _ (by first | omega | (simp; omega)))).mono ?_; rintro e w5 ⟨rfl, hT5⟩; have HT5 := hid hT5; obtain ⟨d50, d51, _, _, d54, _⟩ := HS.out.grow hT5.1; clear hT5)
    | (go_at_call 11; refine (HFm.out _ (HH.out.tab.grow HT3.out.1)).mono ?_; rintro e w4 ⟨rfl, hb4⟩; have hT4 := HT3.out.grow hb4; clear hb4; have HT4 := hid hT4; obtain ⟨d40, d41, _, _, d44, _⟩ := HS.out.grow hT4.1; clear hT4)
    | (go_at_call 22; refine (txn_any w0 b _ t _ HH.out HT2.out (HB _ (by first | omega | (simp; omega))) ht).mono ?_; rintro e w3 ⟨rfl, hT3⟩; have HT3 := hid hT3; obtain ⟨d30, d31, _, _, d34, _⟩ := HS.out.grow hT3.1; clear hT3)
    | (go_at_call 21; refine (put1 w0 b _ _ [32, 97, 110, 100, 32] _ _ (by simp) HT1.out (HB _ (by first | omega | (simp; omega)))).mono ?_; rintro e w2 ⟨rfl, hT2⟩; have HT2 := hid hT2; obtain ⟨d20, d21, _, _, d24, _⟩ := HS.out.grow hT2.1; clear hT2)
    | (go_at_call 22; refine (txn_any w0 b _ f _ HH.out HT0.out (HB _ (by first | omega | (simp; omega))) hf).mono ?_; rintro e w1 ⟨rfl, hT1⟩; have HT1 := hid hT1; obtain ⟨d10, d11, _, _, d14, _⟩ := HS.out.grow hT1.1; clear hT1))
  go_region_with (first
    | (go_at_call 20; refine (firstRead_any t (fq t) key _ (HH.out.grow ((HT5.out.grow (Below.drew (Below.refl _ _))).1)) ht (HF.out t ht)).mono ?_; rintro e w55 ⟨rfl, hb55⟩; have hT55 := (HT5.out.grow (Below.drew (Below.refl _ _))).grow hb55; clear hb55; have HT55 := hid hT55; obtain ⟨d550, d551, _, _, d554, _⟩ := HS.out.grow hT55.1; clear hT55)
    | (go_at_call 19; refine (value_any w0 b _ (ops t (fq t)) s _ HH.out HT55.out (HH.out.opr t ht _ (HF.out t ht).lt) hs (HB _ (by first | omega | (simp; omega)))).mono ?_; rintro e w6 ⟨rfl, hT6⟩; have HT6 := hid hT6; obtain ⟨d60, d61, _, _, d64, _⟩ := HS.out.grow hT6.1; clear hT6))
  all_goals (go_wp2_with (first
    | (go_at_call 21; refine (put1 w0 b _ _ [32, 119, 114, 105, 116, 101, 115, 32, 105, 116] _ _ (by simp) HT8.out (HB _ (by first | omega | (simp; omega)))).mono ?_; rintro e w9 ⟨rfl, hT9⟩; have HT9 := hid hT9; obtain ⟨d90, d91, _, _, d94, _⟩ := HS.out.grow hT9.1; clear hT9)
    | (go_at_call 22; refine (txn_any w0 b _ t _ HH.out HT7.out (HB _ (by first | omega | (simp; omega))) ht).mono ?_; rintro e w8 ⟨rfl, hT8⟩; have HT8 := hid hT8; obtain ⟨d80, d81, _, _, d84, _⟩ := HS.out.grow hT8.1; clear hT8)
    | (go_at_call 21; refine (put1 w0 b _ _ [44, 32, 97, 110, 100, 32] _ _ (by simp) HT6.out (HB _ (by first | omega | (simp; omega)))).mono ?_; rintro e w7 ⟨rfl, hT7⟩; have HT7 := hid hT7; obtain ⟨d70, d71, _, _, d74, _⟩ := HS.out.grow hT7.1; clear hT7))
             go_end0
             refine ⟨rfl, ?_⟩
             have := HT9.out
             rw [HV.out] at this
             simpa [say2] using this)

end Go.Proofs.YbulkgahmDoor
