import Derived.Test.YbulkgahmDoorSay
namespace Go.Proofs.YbulkgahmDoor
open Go.RowKit Go.Zz
variable {Hb tb n : Nat} {ix : Nat → Int} {ob oc om : Nat → Nat} {ops : Nat → Nat → OpV}

/-- the step, in the world w0 -/
structure StepAt (w0 : World) (sb f t : Nat) (r : Int) (s : Option Nat) (cv : Value) : Prop where
  c0 : w0.cell? ⟨sb, 0, none⟩ = some (.int .i32 (f : Int))
  c1 : w0.cell? ⟨sb, 1, none⟩ = some (.int .i32 (t : Int))
  c2 : w0.cell? ⟨sb, 2, none⟩ = some (.int .i32 0)
  c3 : w0.cell? ⟨sb, 3, none⟩ = some (.int .u8 r)
  c4 : w0.cell? ⟨sb, 4, none⟩ = some (.int .i32 (wrI s))
  c5 : w0.cell? ⟨sb, 5, none⟩ = some cv

theorem StepAt.grow {w0 w : World} {sb f t : Nat} {r : Int} {s : Option Nat} {cv : Value} (h : StepAt w0 sb f t r s cv) (hb : Below w0.heap.size w0 w) : StepAt w sb f t r s cv :=
  ⟨cell_grow hb h.c0, cell_grow hb h.c1, cell_grow hb h.c2, cell_grow hb h.c3, cell_grow hb h.c4, cell_grow hb h.c5⟩

/-- the first reads -/
def Firsts (ops : Nat → Nat → OpV) (om : Nat → Nat) (n : Nat) (key : Int) (fq : Nat → Nat) : Prop := ∀ t, t < n → FirstAt (ops t) (om t) key (fq t)

theorem readsL_length (ix : Nat → Int) (t : Nat) (key : Int) (h : i64 (ix t)) (hk : i64 key) : (readsL ix t key).length ≤ 57 := by
  have h1 := nameL_length _ h
  have h2 := Lib.itoa_length_le key hk.1 hk.2
  simp only [readsL, List.length_append, List.length_cons, List.length_nil]
  omega

theorem valL_length (ix : Nat → Int) (o : OpV) (s : Option Nat) (ho : i64 o.val) (hs : ∀ t, s = some t → i64 (ix t)) : (valL ix o s).length ≤ 49 := by
  have h1 := numL_length o ho
  cases s with
  | none => simp only [valL, fromL, List.length_append, List.length_nil]; omega
  | some t =>
    have h2 := nameL_length _ (hs t rfl)
    simp only [valL, fromL, List.length_append, List.length_cons, List.length_nil]
    omega

def say0 (ix : Nat → Int) (op : Nat → OpV) (key : Int) (f t : Nat) : List UInt8 := readsL ix t key ++ valL ix (op t) (some f)

set_option maxHeartbeats 2000000 in
set_option maxRecDepth 100000 in
theorem step0_any (w0 : World) (b sb f t : Nat) (s : Option Nat) (cv : Value) (key : Int) (fq : Nat → Nat) (l : List UInt8) (w : World) (H : Hist w0 Hb tb n ix ob oc om ops) (S : StepAt w0 sb f t 0 s cv)
    (h : Tx w0 b (.pointer (some ⟨Hb, 0, none⟩)) w l) (hF : Firsts ops om n key fq) (hk : i64 key) (hf : f < n) (ht : t < n) (hlen : l.length + 1000 ≤ cap46) :
    Calls Ybad.prog 9 #[.pointer (some ⟨b, 0, none⟩), .pointer (some ⟨sb, 0, none⟩), .int .i64 key] w fun e w' => e = .returned (.tuple #[]) ∧ Tx w0 b (.pointer (some ⟨Hb, 0, none⟩)) w' (l ++ say0 ix (fun t => ops t (fq t)) key f t) := by
  obtain ⟨a0, a1, _, a3, _, _⟩ := S.grow h.1
  have hp : w.cell? ⟨b, 2, none⟩ = some (.pointer (some ⟨Hb, 0, none⟩)) := by
    obtain ⟨_, _, p, v, _, hbk, _⟩ := h
    rw [Lib.cell_of_heap hbk]; rfl
  have HS := hid S
  have HT := hid h
  have HH := hid H
  have HL := hid hlen
  have HF := hid hF
  have hn := H.hn
  clear h H hlen hF S
  go_enter Ybad.func9, Ybad.ntmps9
  go_wp2_with (go_at_call 18; refine (reads_any w0 b l t key _ HH.out HT.out hk ht (by have := HL.out; omega)).mono ?_; rintro e w1 ⟨rfl, hT1⟩; have HT1 := hid hT1; obtain ⟨d0, d1, _, _, _, _⟩ := HS.out.grow hT1.1; clear hT1)
  go_region_with (first
    | (go_at_call 20; refine (firstRead_any t (fq t) key _ (HH.out.grow ((HT1.out.grow (Below.drew (Below.refl _ _))).1)) ht (HF.out t ht)).mono ?_; rintro e w2 ⟨rfl, hb2⟩; have HT2 := hid ((HT1.out.grow (Below.drew (Below.refl _ _))).grow hb2); clear hb2; obtain ⟨k0, k1, _, _, _, _⟩ := HS.out.grow HT2.out.1)
    | (go_at_call 19; refine (value_any w0 b _ (ops t (fq t)) (some f) _ HH.out HT2.out (HH.out.opr t ht _ (HF.out t ht).lt) (fun t' h' => by cases h'; exact hf) (by have := HL.out; have := readsL_length ix t key (HH.out.ixr t ht) hk; simp only [List.length_append]; omega)).mono ?_; rintro e w3 ⟨rfl, hT3⟩))
  all_goals (go_wp2; go_end0; exact ⟨rfl, by simpa [say0] using hT3⟩)

end Go.Proofs.YbulkgahmDoor
