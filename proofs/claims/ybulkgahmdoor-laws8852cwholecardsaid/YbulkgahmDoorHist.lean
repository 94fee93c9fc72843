import Derived.Test.YbulkgahmDoorPut
namespace Go.Proofs.YbulkgahmDoor
open Go.RowKit Go.Zz

structure OpV where
  wr : Bool
  key : Int
  val : Int
  nl : Bool

def OpV.v (o : OpV) : Value := .agg #[.bool o.wr, .int .i64 o.key, .int .i64 o.val, .bool o.nl]

/-- the table of powers as the program's text lays it -/
def Tab (w : World) : Prop := Lib.TabIs Ybad.prog w "internal/strconv.uint64pow10" .u64 Lib.pow10Tab

theorem Tab.grow {w w' : World} (h : Tab w) (hb : Below w.heap.size w w') : Tab w' := by
  unfold Tab Lib.TabIs World.var? at *
  cases hg : Ybad.prog.globalNamed "internal/strconv.uint64pow10" with
  | none => rw [hg] at h; cases h
  | some g =>
    rw [hg] at h
    simp only [Option.bind_some] at h ⊢
    have hlt : g < w.heap.size := by
      rcases Nat.lt_or_ge g w.heap.size with h' | h'
      · exact h'
      · rw [Array.getElem?_eq_none h'] at h; cases h
    rw [hb.block g hlt]
    exact h

theorem below_grow (w : World) (k : Nat) (os : Array Obj) : Below w.heap.size w (Sort.grow (w.drewN k) os) :=
  ⟨rfl, rfl, rfl, by simp [Sort.grow, World.drewN], fun i hi => by simp [Sort.grow, World.drewN, Array.getElem?_append, hi]⟩

def i64 (n : Int) : Prop := -9223372036854775808 ≤ n ∧ n ≤ 9223372036854775807

theorem fmt_any (n : Int) (hn : i64 n) (w : World) (ht : Tab w) : Calls Ybad.prog 11 #[.int .i64 n, .int .i64 10] w fun e w' => e = .returned (.string ⟨(Lib.itoa n).toArray⟩) ∧ Below w.heap.size w w' := by
  refine (Ybad.strconv_FormatInt_10 n hn.1 hn.2 w ht).mono ?_
  rintro e w' ⟨rfl, k, os, rfl⟩
  exact ⟨rfl, below_grow w k os⟩

/-- T<index> -/
def nameL (n : Int) : List UInt8 := 84 :: Lib.itoa n

theorem nameL_length (n : Int) (hn : i64 n) : (nameL n).length ≤ 22 := by
  have := Lib.itoa_length_le n hn.1 hn.2
  simp [nameL]; omega

/-- the history, in the world w0 -/
structure Hist (w0 : World) (Hb tb n : Nat) (ix : Nat → Int) (ob oc om : Nat → Nat) (ops : Nat → Nat → OpV) : Prop where
  tab : Tab w0
  hn : n ≤ 1048576
  head : w0.cell? ⟨Hb, 0, none⟩ = some (.slice (some ⟨tb, 0, none⟩) n n)
  idx : ∀ i, i < n → w0.cell? ⟨tb, i * 3, none⟩ = some (.int .i64 (ix i))
  opsl : ∀ i, i < n → w0.cell? ⟨tb, i * 3 + 2, none⟩ = some (.slice (some ⟨ob i, 0, none⟩) (om i) (oc i))
  c0 : ∀ i, i < n → ∀ j, j < om i → w0.cell? ⟨ob i, j * 4, none⟩ = some (.bool (ops i j).wr)
  c1 : ∀ i, i < n → ∀ j, j < om i → w0.cell? ⟨ob i, j * 4 + 1, none⟩ = some (.int .i64 (ops i j).key)
  c2 : ∀ i, i < n → ∀ j, j < om i → w0.cell? ⟨ob i, j * 4 + 2, none⟩ = some (.int .i64 (ops i j).val)
  c3 : ∀ i, i < n → ∀ j, j < om i → w0.cell? ⟨ob i, j * 4 + 3, none⟩ = some (.bool (ops i j).nl)
  om_le : ∀ i, i < n → om i ≤ 1048576
  ixr : ∀ i, i < n → i64 (ix i)
  opr : ∀ i, i < n → ∀ j, j < om i → i64 (ops i j).val

theorem cell_grow {w w' : World} (hb : Below w.heap.size w w') {a : Addr} {v : Value} (hc : w.cell? a = some v) : w'.cell? a = some v := (hb.cell (World.block_lt_of_cell? w a hc)).trans hc

theorem below_le {B : Nat} {w w' : World} (h : Below w.heap.size w w') (hB : B ≤ w.heap.size) : Below B w w' := ⟨h.os, h.tape, h.output, h.size, fun k hk => h.block k (by omega)⟩

/-- the history stays in a world that has only grown -/
theorem Hist.grow {w0 w : World} {Hb tb n : Nat} {ix : Nat → Int} {ob oc om : Nat → Nat} {ops : Nat → Nat → OpV} (h : Hist w0 Hb tb n ix ob oc om ops) (hb : Below w0.heap.size w0 w) : Hist w Hb tb n ix ob oc om ops :=
  ⟨h.tab.grow hb, h.hn, cell_grow hb h.head, fun i hi => cell_grow hb (h.idx i hi), fun i hi => cell_grow hb (h.opsl i hi), fun i hi j hj => cell_grow hb (h.c0 i hi j hj), fun i hi j hj => cell_grow hb (h.c1 i hi j hj), fun i hi j hj => cell_grow hb (h.c2 i hi j hj), fun i hi j hj => cell_grow hb (h.c3 i hi j hj), h.om_le, h.ixr, h.opr⟩

variable {Hb tb n : Nat} {ix : Nat → Int} {ob oc om : Nat → Nat} {ops : Nat → Nat → OpV}

set_option maxHeartbeats 1000000 in
/-- (*Txn).String -/
theorem txnString_any (t : Nat) (w : World) (h : Hist w Hb tb n ix ob oc om ops) (ht : t < n) :
    Calls Ybad.prog 25 #[.pointer (some ⟨tb, t * 3, none⟩)] w fun e w' => e = .returned (.string ⟨(nameL (ix t)).toArray⟩) ∧ Below w.heap.size w w' := by
  have c0 := h.idx t ht
  have hf := hid (fmt_any (ix t) (h.ixr t ht) w h.tab)
  have hl : ¬ 9223372036854775807 < 1 + (Lib.itoa (ix t)).length := by have := Lib.itoa_length_le (ix t) (h.ixr t ht).1 (h.ixr t ht).2; omega
  clear h
  go_enter Ybad.func25, Ybad.ntmps25
  go_wp2_with (go_at_call 11; refine hf.out.mono ?_; rintro e w1 ⟨rfl, hb⟩)
  go_ret
  exact ⟨rfl, hb⟩

set_option maxHeartbeats 1000000 in
/-- zzs8852cname -/
theorem name_any (t : Nat) (w : World) (h : Hist w Hb tb n ix ob oc om ops) (ht : t < n) :
    Calls Ybad.prog 12 #[.slice (some ⟨tb, 0, none⟩) n n, .int .i32 (t : Int)] w fun e w' => e = .returned (.string ⟨(nameL (ix t)).toArray⟩) ∧ Below w.heap.size w w' := by
  have c0 := h.idx t ht
  have hf := hid (fmt_any (ix t) (h.ixr t ht) w h.tab)
  have hl : ¬ 9223372036854775807 < 1 + (Lib.itoa (ix t)).length := by have := Lib.itoa_length_le (ix t) (h.ixr t ht).1 (h.ixr t ht).2; omega
  have hn := h.hn
  clear h
  go_enter Ybad.func12, Ybad.ntmps12
  go_wp2_with (go_at_call 11; refine hf.out.mono ?_; rintro e w1 ⟨rfl, hb⟩)
  go_ret
  exact ⟨rfl, hb⟩

set_option maxHeartbeats 2000000 in
/-- (*text).txn -/
theorem txn_any (w0 : World) (b : Nat) (l : List UInt8) (t : Nat) (w : World) (H : Hist w0 Hb tb n ix ob oc om ops) (h : Tx w0 b (.pointer (some ⟨Hb, 0, none⟩)) w l) (hlen : l.length + 22 ≤ cap46) (ht : t < n) :
    Calls Ybad.prog 22 #[.pointer (some ⟨b, 0, none⟩), .int .i32 (t : Int)] w fun e w' => e = .returned (.tuple #[]) ∧ Tx w0 b (.pointer (some ⟨Hb, 0, none⟩)) w' (l ++ nameL (ix t)) := by
  have Hw := H.grow h.1
  have c0 := Hw.head
  have c1 : w.cell? ⟨b, 2, none⟩ = some (.pointer (some ⟨Hb, 0, none⟩)) := by
    obtain ⟨_, _, p, v, _, hbk, _⟩ := h
    rw [Lib.cell_of_heap hbk]; rfl
  have hn := H.hn
  have hT : ∀ w2, Below w.heap.size w w2 → Calls Ybad.prog 8 #[.pointer (some ⟨b, 0, none⟩), .string ⟨(nameL (ix t)).toArray⟩] w2 _ := fun w2 hb2 => write_any w0 b _ l (nameL (ix t)) w2 (h.grow hb2) (by have := nameL_length (ix t) (H.ixr t ht); omega)
  have HT := hid hT
  have hS : ∀ w2, Below w.heap.size w w2 → Calls Ybad.prog 25 #[.pointer (some ⟨tb, t * 3, none⟩)] w2 _ := fun w2 hb2 => txnString_any t w2 (Hw.grow hb2) ht
  have HS := hid hS
  clear hT hS H h Hw
  go_enter Ybad.func22, Ybad.ntmps22
  go_region_with (first
    | (go_at_call 25; refine (HS.out _ (Below.drew (Below.refl _ _))).mono ?_; rintro e w1 ⟨rfl, hb⟩)
    | (go_at_call 8; refine (HT.out _ ((Below.drew (Below.refl _ _)).trans hb)).mono ?_; rintro e w2 ⟨⟨n2, rfl⟩, hT2, _⟩))
  all_goals (go_wp2; go_end0; exact ⟨rfl, hT2⟩)

end Go.Proofs.YbulkgahmDoor
