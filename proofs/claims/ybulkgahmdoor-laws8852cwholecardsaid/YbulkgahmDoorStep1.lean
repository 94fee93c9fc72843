import Derived.Test.YbulkgahmDoorStep
namespace Go.Proofs.YbulkgahmDoor
open Go.RowKit Go.Zz
variable {Hb tb n : Nat} {ix : Nat → Int} {ob oc om : Nat → Nat} {ops : Nat → Nat → OpV}

/-- the transactions on the way back along the chain: f, the chain's last, .., its first -/
def sq (f : Nat) (ch : Nat → Nat) (m i : Nat) : Nat := if i = 0 then f else ch (m - i)

/-- the first i pieces of the way -/
def chainL (ix : Nat → Int) (op : Nat → OpV) (g : Nat → Nat) : Nat → List UInt8
  | 0 => []
  | i + 1 => chainL ix op g i ++ (valL ix (op (g i)) (some (g (i + 1))) ++ [44, 32, 119, 104, 105, 99, 104, 32, 114, 101, 97, 100, 115, 32])

theorem chainL_length (ix : Nat → Int) (op : Nat → OpV) (g : Nat → Nat) (m : Nat) (h1 : ∀ i, i ≤ m → i64 (op (g i)).val) (h2 : ∀ i, i ≤ m → i64 (ix (g i))) : ∀ i, i ≤ m → (chainL ix op g i).length ≤ i * 63
  | 0, _ => by simp [chainL]
  | i + 1, h => by
    have ih := chainL_length ix op g m h1 h2 i (by omega)
    have hv := valL_length ix (op (g i)) (some (g (i + 1))) (h1 i (by omega)) (fun t ht => by cases ht; exact h2 (i + 1) h)
    simp only [chainL, List.length_append, List.length_cons, List.length_nil]
    omega

theorem sq_lt {f m n : Nat} {ch : Nat → Nat} (hf : f < n) (hc : ∀ j, j < m → ch j < n) (i : Nat) (hi : i ≤ m) : sq f ch m i < n := by
  unfold sq
  split
  · exact hf
  · exact hc _ (by omega)

def commaL (m : Nat) : List UInt8 := if m = 0 then [] else [44]

def say1 (ix : Nat → Int) (op : Nat → OpV) (key : Int) (f t : Nat) (ch : Nat → Nat) (m : Nat) : List UInt8 :=
  readsL ix f key ++ (chainL ix op (sq f ch m) m ++ ([110, 105, 108] ++ (commaL m ++ ([32, 97, 110, 100, 32] ++ (nameL (ix t) ++ [32, 119, 114, 105, 116, 101, 115, 32, 105, 116])))))

set_option maxHeartbeats 4000000 in
set_option maxRecDepth 100000 in
theorem step1_any (w0 : World) (b sb f t m cc cb : Nat) (s : Option Nat) (ca : Option Addr) (ch : Nat → Nat) (key : Int) (fq : Nat → Nat) (l : List UInt8) (w : World) (H : Hist w0 Hb tb n ix ob oc om ops) (S : StepAt w0 sb f t 1 s (.slice ca m cc))
    (hC0 : 0 < m → ca = some ⟨cb, 0, none⟩) (hC : ∀ j, j < m → w0.cell? ⟨cb, j, none⟩ = some (.int .i32 (ch j : Int))) (hcn : ∀ j, j < m → ch j < n) (hm : m ≤ 1048576)
    (h : Tx w0 b (.pointer (some ⟨Hb, 0, none⟩)) w l) (hF : Firsts ops om n key fq) (hk : i64 key) (hf : f < n) (ht : t < n) (hlen : l.length + m * 63 + 1000 ≤ cap46) :
    Calls Ybad.prog 9 #[.pointer (some ⟨b, 0, none⟩), .pointer (some ⟨sb, 0, none⟩), .int .i64 key] w fun e w' => e = .returned (.tuple #[]) ∧ Tx w0 b (.pointer (some ⟨Hb, 0, none⟩)) w' (l ++ say1 ix (fun t => ops t (fq t)) key f t ch m) := by
  obtain ⟨a0, a1, _, a3, _, _⟩ := S.grow h.1
  have hp : w.cell? ⟨b, 2, none⟩ = some (.pointer (some ⟨Hb, 0, none⟩)) := by
    obtain ⟨_, _, p, v, _, hbk, _⟩ := h
    rw [Lib.cell_of_heap hbk]; rfl
  have HS := hid S
  have HT0 := hid h
  have HH := hid H
  have HF := hid hF
  have hn := H.hn
  have l1 := readsL_length ix f key (H.ixr f hf) hk
  have l2 := nameL_length _ (H.ixr t ht)
  have hsq := sq_lt (m := m) hf hcn
  have hop : ∀ i, i ≤ m → i64 (ops (sq f ch m i) (fq (sq f ch m i))).val := fun i hi => H.opr _ (hsq i hi) _ (hF _ (hsq i hi)).lt
  have l4 := chainL_length ix (fun t => ops t (fq t)) (sq f ch m) m hop (fun i hi => H.ixr _ (hsq i hi))
  have HB : ∀ x : Nat, x ≤ l.length + m * 63 + 1000 → x ≤ cap46 := fun x hx => Nat.le_trans hx hlen
  have HC0 := hid hC0
  have HC := hid hC
  have HSQ := hid hsq
  have HOP := hid hop
  have HL4 := hid l4
  clear h H hlen hF S hC0 hC hsq hop l4 hcn
  go_enter Ybad.func9, Ybad.ntmps9
  go_wp2_with (go_at_call 18; refine (reads_any w0 b l f key _ HH.out HT0.out hk hf (HB _ (by first | omega | (simp; omega)))).mono ?_; rintro e w1 ⟨rfl, hT1⟩; have HT1 := hid hT1; obtain ⟨d10, d11, _, _, _, d15⟩ := HS.out.grow hT1.1; clear hT1)
  go_loopw [8, 7] (fun k fr wr => ∃ i : Nat, i ≤ m ∧ k = .int .i64 (((m - i : Nat) : Int) - 1) ∧ fr = .int .i32 (sq f ch m i : Int) ∧ Tx w0 b (.pointer (some ⟨Hb, 0, none⟩)) wr (l ++ readsL ix f key ++ chainL ix (fun t => ops t (fq t)) (sq f ch m) i)) (fun k _ _ => (intOf k + 1).toNat)
  case atStart => exact ⟨0, by omega, by simp, by simp [sq], by simpa [chainL] using HT1.out⟩
  case round =>
    obtain ⟨i, hi, rfl, rfl, hT2⟩ := hrel
    clear d10 d11 d15
    have HT2 := hid hT2
    obtain ⟨d20, d21, _, _, _, d25⟩ := HS.out.grow hT2.1
    clear hT2
    have l5 := HL4.out i hi
    by_cases him : i < m
    · obtain rfl := HC0.out (by omega)
      obtain ⟨kk, hkk⟩ : ∃ kk, m - i = kk + 1 := ⟨m - i - 1, by omega⟩
      have ek : (((m - i : Nat) : Int) - 1) = (kk : Int) := by omega
      have es : sq f ch m (i + 1) = ch kk := by unfold sq; rw [if_neg (by omega)]; congr 1; omega
      have hkm : kk < m := by omega
      rw [ek]
      have c2 := HT2.out.cell (HC.out kk hkm)
      have hci := HSQ.out (i + 1) (by omega)
      rw [es] at hci
      have hsi := HSQ.out i hi
      have HES := hid es
      have HEK := hid ek
      have HKK := hid hkk
      obtain ⟨si, hsi'⟩ : ∃ si, si = sq f ch m i := ⟨_, rfl⟩
      have hopi := HOP.out i hi
      rw [← hsi'] at hsi hopi ⊢
      have HSI := hid hsi'
      obtain ⟨lx, hlx⟩ : ∃ lx, lx = l ++ readsL ix f key ++ chainL ix (fun t => ops t (fq t)) (sq f ch m) i := ⟨_, rfl⟩
      have llx : lx.length ≤ l.length + 57 + i * 63 := by rw [hlx]; simp only [List.length_append]; omega
      rw [← hlx] at HT2
      have HLX := hid hlx
      have lv := valL_length ix (ops si (fq si)) (some (ch kk)) hopi (fun t' h' => by cases h'; exact HH.out.ixr _ hci)
      clear es ek hkk hsi' hlx
      go_wp2
      go_region_with (first
        | (go_at_call 20; refine (firstRead_any si (fq si) key _ (HH.out.grow ((HT2.out.grow (Below.drew (Below.refl _ _))).1)) hsi (HF.out si hsi)).mono ?_; rintro e w3 ⟨rfl, hb3⟩; have hT3 := (HT2.out.grow (Below.drew (Below.refl _ _))).grow hb3; clear hb3; have c3 := hT3.cell (HC.out kk hkm); have HT3 := hid hT3; obtain ⟨d30, d31, _, _, _, d35⟩ := HS.out.grow hT3.1; clear hT3)
        | (go_at_call 19; refine (value_any w0 b lx (ops si (fq si)) (some (ch kk)) _ HH.out HT3.out hopi (fun t' h' => by cases h'; exact hci) (HB _ (by first | omega | (simp; omega)))).mono ?_; rintro e w4 ⟨rfl, hT4⟩; have HT4 := hid hT4; obtain ⟨d40, d41, _, _, _, d45⟩ := HS.out.grow hT4.1; clear hT4))
      all_goals
        go_wp2_with (go_at_call 21; refine (put1 w0 b _ _ [44, 32, 119, 104, 105, 99, 104, 32, 114, 101, 97, 100, 115, 32] _ _ (by simp) HT4.out (HB _ (by first | omega | (simp; omega)))).mono ?_; rintro e w5 ⟨rfl, hT5⟩; have c5 := hT5.cell (HC.out kk hkm); have HT5 := hid hT5; obtain ⟨d50, d51, _, _, _, d55⟩ := HS.out.grow hT5.1; clear hT5)
        go_roundw
        case rel =>
          refine ⟨i + 1, by omega, ?_, by rw [HES.out], ?_⟩
          · have := HKK.out
            go_num
          · rw [chainL, HES.out, ← HSI.out, ← List.append_assoc, ← HLX.out, ← List.append_assoc]
            exact HT5.out
        case measure => simp [intOf]
    · obtain rfl : i = m := by omega
      obtain ⟨lx, hlx⟩ : ∃ lx, lx = l ++ readsL ix f key ++ chainL ix (fun t => ops t (fq t)) (sq f ch i) i := ⟨_, rfl⟩
      have llx : lx.length ≤ l.length + 57 + i * 63 := by rw [hlx]; simp only [List.length_append]; omega
      rw [← hlx] at HT2
      have HLX := hid hlx
      clear hlx
      by_cases hi0 : i = 0
      · subst hi0
        go_wp2_with (first
        | (go_at_call 21; refine (put1 w0 b _ _ [32, 119, 114, 105, 116, 101, 115, 32, 105, 116] _ _ (by simp) HT9.out (HB _ (by first | omega | (simp; omega)))).mono ?_; rintro e w10 ⟨rfl, hT10⟩; have HT10 := hid hT10; obtain ⟨d100, d101, _, _, _, d105⟩ := HS.out.grow hT10.1; clear hT10)
        | (go_at_call 22; refine (txn_any w0 b _ t _ HH.out HT8.out (HB _ (by first | omega | (simp; omega))) ht).mono ?_; rintro e w9 ⟨rfl, hT9⟩; have HT9 := hid hT9; obtain ⟨d90, d91, _, _, _, d95⟩ := HS.out.grow hT9.1; clear hT9)
        | (go_at_call 21; refine (put1 w0 b _ _ [32, 97, 110, 100, 32] _ _ (by simp) HT6.out (HB _ (by first | omega | (simp; omega)))).mono ?_; rintro e w8 ⟨rfl, hT8⟩; have HT8 := hid hT8; obtain ⟨d80, d81, _, _, _, d85⟩ := HS.out.grow hT8.1; clear hT8)
        | (go_at_call 21; refine (put1 w0 b _ _ [110, 105, 108] _ _ (by simp) HT2.out (HB _ (by first | omega | (simp; omega)))).mono ?_; rintro e w6 ⟨rfl, hT6⟩; have HT6 := hid hT6; obtain ⟨d60, d61, _, _, _, d65⟩ := HS.out.grow hT6.1; clear hT6))
        go_end0
        refine ⟨rfl, ?_⟩
        have := HT10.out
        rw [HLX.out] at this
        simpa [say1, commaL] using this
      · have hi1 : 0 < i := by omega
        go_wp2_with (first
        | (go_at_call 21; refine (put1 w0 b _ _ [32, 119, 114, 105, 116, 101, 115, 32, 105, 116] _ _ (by simp) HT9.out (HB _ (by first | omega | (simp; omega)))).mono ?_; rintro e w10 ⟨rfl, hT10⟩; have HT10 := hid hT10; obtain ⟨d100, d101, _, _, _, d105⟩ := HS.out.grow hT10.1; clear hT10)
        | (go_at_call 22; refine (txn_any w0 b _ t _ HH.out HT8.out (HB _ (by first | omega | (simp; omega))) ht).mono ?_; rintro e w9 ⟨rfl, hT9⟩; have HT9 := hid hT9; obtain ⟨d90, d91, _, _, _, d95⟩ := HS.out.grow hT9.1; clear hT9)
        | (go_at_call 21; refine (put1 w0 b _ _ [32, 97, 110, 100, 32] _ _ (by simp) HT7.out (HB _ (by first | omega | (simp; omega)))).mono ?_; rintro e w8 ⟨rfl, hT8⟩; have HT8 := hid hT8; obtain ⟨d80, d81, _, _, _, d85⟩ := HS.out.grow hT8.1; clear hT8)
        | (go_at_call 21; refine (put1 w0 b _ _ [44] _ _ (by simp) HT6.out (HB _ (by first | omega | (simp; omega)))).mono ?_; rintro e w7 ⟨rfl, hT7⟩; have HT7 := hid hT7; obtain ⟨d70, d71, _, _, _, d75⟩ := HS.out.grow hT7.1; clear hT7)
        | (go_at_call 21; refine (put1 w0 b _ _ [110, 105, 108] _ _ (by simp) HT2.out (HB _ (by first | omega | (simp; omega)))).mono ?_; rintro e w6 ⟨rfl, hT6⟩; have HT6 := hid hT6; obtain ⟨d60, d61, _, _, _, d65⟩ := HS.out.grow hT6.1; clear hT6))
        go_end0
        refine ⟨rfl, ?_⟩
        have := HT10.out
        rw [HLX.out] at this
        simpa [say1, commaL, hi0] using this

end Go.Proofs.YbulkgahmDoor
