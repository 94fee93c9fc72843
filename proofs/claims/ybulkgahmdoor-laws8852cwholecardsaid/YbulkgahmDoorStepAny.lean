import Derived.Test.YbulkgahmDoorStep1
import Derived.Test.YbulkgahmDoorStep2
namespace Go.Proofs.YbulkgahmDoor
open Go.RowKit Go.Zz
variable {Hb tb n : Nat} {ix : Nat → Int} {ob oc om : Nat → Nat} {ops : Nat → Nat → OpV}

/-- the sentence of the rule r -/
def say (ix : Nat → Int) (op : Nat → OpV) (key : Int) (f t : Nat) (s : Option Nat) (ch : Nat → Nat) (m r : Nat) : List UInt8 :=
  if r = 0 then say0 ix op key f t else if r = 1 then say1 ix op key f t ch m else say2 ix op key f t s

theorem step_any (w0 : World) (b sb f t m cc cb r : Nat) (s : Option Nat) (ca : Option Addr) (ch : Nat → Nat) (key : Int) (fq : Nat → Nat) (l : List UInt8) (w : World) (H : Hist w0 Hb tb n ix ob oc om ops) (hr : r < 3) (S : StepAt w0 sb f t (r : Int) s (.slice ca m cc))
    (hC0 : 0 < m → ca = some ⟨cb, 0, none⟩) (hC : ∀ j, j < m → w0.cell? ⟨cb, j, none⟩ = some (.int .i32 (ch j : Int))) (hcn : ∀ j, j < m → ch j < n) (hm : m ≤ 1048576)
    (h : Tx w0 b (.pointer (some ⟨Hb, 0, none⟩)) w l) (hF : Firsts ops om n key fq) (hk : i64 key) (hf : f < n) (ht : t < n) (hs : ∀ t, s = some t → t < n) (hlen : l.length + m * 63 + 1000 ≤ cap46) :
    Calls Ybad.prog 9 #[.pointer (some ⟨b, 0, none⟩), .pointer (some ⟨sb, 0, none⟩), .int .i64 key] w fun e w' => e = .returned (.tuple #[]) ∧ Tx w0 b (.pointer (some ⟨Hb, 0, none⟩)) w' (l ++ say ix (fun t => ops t (fq t)) key f t s ch m r) := by
  obtain rfl | rfl | rfl : r = 0 ∨ r = 1 ∨ r = 2 := by omega
  · exact step0_any w0 b sb f t s _ key fq l w H S h hF hk hf ht (by omega)
  · exact step1_any w0 b sb f t m cc cb s ca ch key fq l w H S hC0 hC hcn hm h hF hk hf ht hlen
  · exact step2_any w0 b sb f t s _ key fq l w H S h hF hk hf ht hs (by omega)

/-- a first read there is -/
theorem firsts_of {key : Int} (h : ∀ i, i < n → ∃ j, j < om i ∧ (ops i j).key = key ∧ (ops i j).wr = false) : ∃ fq, Firsts ops om n key fq := by
  have h1 : ∀ i, i < n → ∃ q, FirstAt (ops i) (om i) key q := by
    intro i hi
    obtain ⟨j, hj, hk, hw⟩ := h i hi
    have : ∀ b, (∀ j, j < b → (ops i j).key = key → (ops i j).wr = true) ∨ ∃ q, q < b ∧ (ops i q).key = key ∧ (ops i q).wr = false ∧ ∀ j, j < q → (ops i j).key = key → (ops i j).wr = true := by
      intro b
      induction b with
      | zero => exact .inl (fun j hj => by omega)
      | succ b ih =>
        rcases ih with ih | ⟨q, h1, h2⟩
        · by_cases hb : (ops i b).key = key ∧ (ops i b).wr = false
          · exact .inr ⟨b, by omega, hb.1, hb.2, ih⟩
          · refine .inl (fun j hj hkj => ?_)
            by_cases e : j = b
            · subst e
              cases hwj : (ops i j).wr with
              | true => rfl
              | false => exact absurd ⟨hkj, hwj⟩ hb
            · exact ih j (by omega) hkj
        · exact .inr ⟨q, by omega, h2⟩
    rcases this (om i) with h1 | ⟨q, h1, h2, h3, h4⟩
    · have := h1 j hj hk
      rw [hw] at this
      cases this
    · exact ⟨q, h1, h2, h3, h4⟩
  refine ⟨fun i => if hi : i < n then Classical.choose (h1 i hi) else 0, fun i hi => ?_⟩
  simp only [dif_pos hi]
  exact Classical.choose_spec (h1 i hi)

end Go.Proofs.YbulkgahmDoor
