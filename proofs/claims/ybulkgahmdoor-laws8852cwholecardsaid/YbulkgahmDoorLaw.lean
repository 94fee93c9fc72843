import Derived.Test.YbulkgahmDoorInv
import Derived.Test.YbulkgahmDoorStepAny
import Derived.Deep.CutRange
import Derived.Deep.DeepCutAuto
import Derived.Deep.CutBlock
import Derived.BigRegion
import Derived.WalkSmall
import Derived.Deep.QuietTactic
namespace Go.Proofs.YbulkgahmDoor
open Go.RowKit Go.Zz

/-- the indices as they stand in the call's own row, in the world w1 -/
structure Idx (w w1 : World) (xg n : Nat) (ix : Nat → Int) : Prop where
  n0 : 0 < n
  n1 : n ≤ 65536
  cell : ∀ i, i < n → w1.cell? ⟨xg, i, none⟩ = some (.int .i64 (ix i))
  rng : ∀ i, i < n → i64 (ix i)
  bel : Below w.heap.size w w1

/-- .. with the counts' and the values' bounds -/
structure InvB (w wr : World) (tb n : Nat) (ix : Nat → Int) (V : Nat → Value) (cnt : Nat → Nat) (F : Nat → Nat → OpV) (k : Nat) : Prop where
  inv : Inv w wr tb n ix V cnt F
  le : ∀ i, i < n → cnt i ≤ k
  rng : ∀ i, i < n → ∀ j, j < cnt i → i64 (F i j).val

theorem InvB.app {w wr wr' : World} {tb n : Nat} {ix : Nat → Int} {V V' : Nat → Value} {cnt : Nat → Nat} {F : Nat → Nat → OpV} {k t : Nat} {o : OpV} (h : InvB w wr tb n ix V cnt F k)
    (hI : Inv w wr' tb n ix V' (upd cnt t (cnt t + 1)) (upd F t (appOp (F t) (cnt t) o))) (ht : t < n) (ho : i64 o.val) : InvB w wr' tb n ix V' (upd cnt t (cnt t + 1)) (upd F t (appOp (F t) (cnt t) o)) (k + 1) := by
  refine ⟨hI, fun i hi => ?_, fun i hi j hj => ?_⟩
  · by_cases e : i = t
    · subst e
      rw [upd_same]
      have := h.le i hi
      omega
    · rw [upd_other _ _ _ e]
      have := h.le i hi
      omega
  · by_cases e : i = t
    · subst e
      rw [upd_same] at hj ⊢
      unfold appOp
      by_cases e2 : j = cnt i
      · rw [if_pos e2]; exact ho
      · rw [if_neg e2]; exact h.rng i hi j (by omega)
    · rw [upd_other _ _ _ e] at hj ⊢
      exact h.rng i hi j hj

/-- the first k transactions read the key -/
def Rd (key : Int) (cnt : Nat → Nat) (F : Nat → Nat → OpV) (k : Nat) : Prop := ∀ i, i < k → ∃ j, j < cnt i ∧ (F i j).key = key ∧ (F i j).wr = false

theorem Rd.app {key : Int} {cnt : Nat → Nat} {F : Nat → Nat → OpV} {k : Nat} {o : OpV} (h : Rd key cnt F k) (hk : o.key = key) (hw : o.wr = false) : Rd key (upd cnt k (cnt k + 1)) (upd F k (appOp (F k) (cnt k) o)) (k + 1) := by
  intro i hi
  by_cases e : i = k
  · subst e
    refine ⟨cnt i, by rw [upd_same]; omega, ?_, ?_⟩
    · rw [upd_same]; unfold appOp; rw [if_pos rfl]; exact hk
    · rw [upd_same]; unfold appOp; rw [if_pos rfl]; exact hw
  · rw [upd_other _ _ _ e, upd_other _ _ _ e]
    exact h i (by omega)

theorem Inv.alloc {w wr : World} {tb n : Nat} {ix : Nat → Int} {V : Nat → Value} {cnt : Nat → Nat} {F : Nat → Nat → OpV} (h : Inv w wr tb n ix V cnt F) (o : Obj) : Inv w (wr.alloc o) tb n ix V cnt F :=
  ⟨h.row.alloc o, fun i hi => (h.vec i hi).alloc o, h.apart, h.bel.alloc h.bel.size o, h.htb⟩

theorem bcell {w w' : World} (hb : Below w.heap.size w w') {a : Addr} {v : Value} (hc : w.cell? a = some v) : w'.cell? a = some v := cell_grow hb hc

/-- the index that zzs8852cmod gives -/
def md (x n : Nat) : Nat := x % n
theorem md_lt (x : Nat) {n : Nat} (h : 0 < n) : md x n < n := Nat.mod_lt _ h
theorem mod_md (x n : Nat) (w : World) (hx : x < 4294967296) (hn0 : 0 < n) (hn : n ≤ 65536) :
    Calls Ybad.prog 6 #[.int .u32 (x : Int), .int .i64 (n : Int)] w fun e w' => e = .returned (.int .i32 (md x n : Int)) ∧ w' = w := mod_any x n w hx hn0 hn

theorem say_ne (ix : Nat → Int) (op : Nat → OpV) (key : Int) (f t : Nat) (s : Option Nat) (ch : Nat → Nat) (m r : Nat) : say ix op key f t s ch m r ≠ [] := by
  unfold say say0 say1 say2 readsL nameL
  split
  · simp
  · split <;> simp

theorem make27 (n : Nat) (hn : n ≤ 1048576) (w : World) : (Instr.makeSlice 27 (.int .i64 (n : Int)) (.int .i64 (n : Int))).run Ybad.prog w = .ok (.slice (some ⟨w.heap.size, 0, none⟩) n n) (w.alloc (.cells (madeCells #[.int .i64 0, .int .u8 0, .slice none 0 0] (n * 3)) 31)) :=
  run_make_any Ybad.prog 27 31 _ _ 3 40 Ybad.underlying27 Ybad.info31 rfl n (by omega) (by omega) w

theorem make36 (n : Nat) (hn : n ≤ 1048576) (w : World) : (Instr.makeSlice 36 (.int .i64 (n : Int)) (.int .i64 (n : Int))).run Ybad.prog w = .ok (.slice (some ⟨w.heap.size, 0, none⟩) n n) (w.alloc (.cells (madeCells #[.slice none 0 0] (n * 1)) 29)) :=
  run_make_any Ybad.prog 36 29 _ _ 1 24 Ybad.underlying36 Ybad.info29 rfl n (by omega) (by omega) w

theorem vec_slice {w : World} {B : Nat} {e : TypeId} {size : Nat} {v : Value} {n : Nat} {f : Nat → Value} (h : Vec w B e size v n f) : ∃ ao cp, v = .slice ao n cp ∧ (0 < n → ∃ g, ao = some ⟨g, 0, none⟩) := by
  rcases h.shape with ⟨rfl, rfl⟩ | ⟨b, cap, rfl, _⟩
  · exact ⟨none, 0, rfl, fun h => by omega⟩
  · exact ⟨_, _, rfl, fun _ => ⟨b, rfl⟩⟩

/-- the copies of the operations, the first k of them: w is the world before -/
structure Cp (w wr : World) (n : Nat) (cnt : Nat → Nat) (F : Nat → Nat → OpV) (V2 : Nat → Value) (k : Nat) : Prop where
  row : wr.rowIs w.heap.size 29 n (fun j => if j < k then V2 j else .slice none 0 0)
  vec : ∀ j, j < k → Vec wr w.heap.size 35 4 (V2 j) (cnt j) (opF (F j))
  bel : Below w.heap.size w wr

theorem cp_start (w : World) (n : Nat) : (w.alloc (.cells (madeCells #[.slice none 0 0] n) 29)).rowIs w.heap.size 29 n (fun j => if j < 0 then (fun _ => .slice none 0 0 : Nat → Value) j else .slice none 0 0) := by
  refine (rowIs_madeN w #[.slice none 0 0] n 29).congr fun j hj => ?_
  simp [Nat.mod_one]

theorem vec_grow {w w' : World} {B : Nat} {e : TypeId} {size : Nat} {v : Value} {n : Nat} {f : Nat → Value} (h : Vec w B e size v n f) (hb : Below w.heap.size w w') : Vec w' B e size v n f := owns_grow h hb

theorem vec_base {w : World} {B B' : Nat} {e : TypeId} {size : Nat} {v : Value} {n : Nat} {f : Nat → Value} (h : Vec w B e size v n f) (hB : B' ≤ B) : Vec w B' e size v n f := by
  refine ⟨h.1, h.2.imp id ?_⟩
  rintro ⟨b, cap, cur, h1, h2, h3⟩
  exact ⟨b, cap, cur, h1, by omega, h3⟩

theorem vec_set {w : World} {B b m : Nat} {e T : TypeId} {size : Nat} {v : Value} {n : Nat} {f g : Nat → Value} (h : Vec w B e size v n f) (hr : w.rowIs b T m g) (hTe : T ≠ e) (i : Nat) (u : Value) : Vec (w.setCell ⟨b, i, none⟩ u) B e size v n f := by
  have hne := vec_ne h hr hTe
  rcases h.shape with ⟨rfl, rfl⟩ | ⟨c, cap, rfl, _⟩
  · exact Vec.nil _ _ _ _ _
  · exact h.setOther (fun e => hne (by rw [e]; rfl)) _

theorem Cp.step {w wr wb : World} {n : Nat} {cnt : Nat → Nat} {F : Nat → Nat → OpV} {V2 : Nat → Value} {k : Nat} {v : Value} (h : Cp w wr n cnt F V2 k) (hb : Below wr.heap.size wr wb) (hv : Vec wb wr.heap.size 35 4 v (cnt k) (opF (F k))) :
    Cp w (wb.setCell ⟨w.heap.size, k, none⟩ v) n cnt F (upd V2 k v) (k + 1) := by
  have hrow := h.row.of_block (hb.block _ h.row.lt)
  refine ⟨(hrow.set k v).congr fun j hj => ?_, fun j hj => ?_, (h.bel.trans (below_le hb h.bel.size)).setCell (p := ⟨w.heap.size, k, none⟩) (Nat.le_refl _) _⟩
  · by_cases e : j = k
    · subst e
      rw [if_pos rfl, if_pos (by omega), upd_same]
    · rw [if_neg e]
      by_cases h1 : j < k
      · rw [if_pos h1, if_pos (by omega), upd_other _ _ _ e]
      · rw [if_neg h1, if_neg (by omega)]
  · by_cases e : j = k
    · subst e
      rw [upd_same]
      exact vec_set (vec_base hv h.bel.size) hrow (by decide) _ _
    · rw [upd_other _ _ _ e]
      exact vec_set (vec_grow (h.vec j (by omega)) hb) hrow (by decide) _ _

def obOf (V : Nat → Value) (i : Nat) : Nat := (V i).ownBlock.getD 0
def ocOf (V : Nat → Value) (i : Nat) : Nat := match V i with
  | .slice _ _ c => c
  | _ => 0

theorem v_shape {w wr : World} {tb n : Nat} {ix : Nat → Int} {V : Nat → Value} {cnt : Nat → Nat} {F : Nat → Nat → OpV} {key : Int} (h : Inv w wr tb n ix V cnt F) (hr : Rd key cnt F n) (i : Nat) (hi : i < n) : V i = .slice (some ⟨obOf V i, 0, none⟩) (cnt i) (ocOf V i) := by
  obtain ⟨j, hj, _⟩ := hr i hi
  rcases (h.vec i hi).shape with ⟨_, h0⟩ | ⟨b, c, hv, _⟩
  · omega
  · have e1 : obOf V i = b := by unfold obOf; rw [hv]; rfl
    have e2 : ocOf V i = c := by unfold ocOf; rw [hv]
    rw [e1, e2, hv]

/-- the history that has been built, in any later world -/
theorem hist_of {w wr wx : World} {tb n k Hb : Nat} {ix : Nat → Int} {V : Nat → Value} {cnt : Nat → Nat} {F : Nat → Nat → OpV} {key : Int} (h : InvB w wr tb n ix V cnt F k) (hr : Rd key cnt F n) (hn : n ≤ 65536) (hk : k ≤ 1048576) (hix : ∀ i, i < n → i64 (ix i))
    (hb : Below wr.heap.size wr wx) (ht : Tab wx) (hH : wx.cell? ⟨Hb, 0, none⟩ = some (.slice (some ⟨tb, 0, none⟩) n n)) : Hist wx Hb tb n ix (obOf V) (ocOf V) cnt F := by
  have hcell : ∀ i, i < n → ∀ j, j < cnt i * 4 → wx.cell? ⟨obOf V i, j, none⟩ = some (opF (F i) j) := fun i hi j hj => by
    have hv := h.inv.vec i hi
    rw [v_shape h.inv hr i hi] at hv
    exact cell_grow hb (hv.cell hj)
  refine ⟨ht, by omega, hH, fun i hi => ?_, fun i hi => ?_, fun i hi j hj => ?_, fun i hi j hj => ?_, fun i hi j hj => ?_, fun i hi j hj => ?_, fun i hi => ?_, hix, h.rng⟩
  · have := h.inv.row.cell (i := i * 3) (by omega)
    rw [txF0, if_pos hi] at this
    exact cell_grow hb this
  · have := h.inv.row.cell (i := i * 3 + 2) (by omega)
    rw [txF2, v_shape h.inv hr i hi] at this
    exact cell_grow hb this
  · rw [hcell i hi _ (by omega), opF0]
  · rw [hcell i hi _ (by omega), opF1]
  · rw [hcell i hi _ (by omega), opF2]
  · rw [hcell i hi _ (by omega), opF3]
  · have := h.le i hi
    omega

theorem say_length (ix : Nat → Int) (op : Nat → OpV) (key : Int) (f t : Nat) (s : Option Nat) (ch : Nat → Nat) (m r : Nat) (hf : i64 (ix f)) (ht : i64 (ix t)) (hk : i64 key) (hv : i64 (op t).val) (hs : ∀ t', s = some t' → i64 (ix t'))
    (h1 : ∀ i, i ≤ m → i64 (op (sq f ch m i)).val) (h2 : ∀ i, i ≤ m → i64 (ix (sq f ch m i))) : (say ix op key f t s ch m r).length ≤ m * 63 + 1000 := by
  have e1 := nameL_length _ hf
  have e2 := nameL_length _ ht
  have e3 := Lib.itoa_length_le _ hk.1 hk.2
  have e4 := readsL_length ix f key hf hk
  have e5 := readsL_length ix t key ht hk
  have e6 := valL_length ix (op t) s hv hs
  have e7 := valL_length ix (op t) (some f) hv (fun t' h' => by cases h'; exact hf)
  have e8 := chainL_length ix op (sq f ch m) m h1 h2 m (Nat.le_refl _)
  unfold say say0 say1 say2 commaL
  split
  · simp only [List.length_append]; omega
  · split
    · split <;> simp only [List.length_append, List.length_cons, List.length_nil] <;> omega
    · simp only [List.length_append, List.length_cons, List.length_nil]; omega

attribute [-go_sem] Builtin.append_

set_option maxRecDepth 100000 in
set_option maxHeartbeats 4000000 in
theorem walkC (at0 : Option Addr) (L c0 xb xo : Nat) (X : Nat → Int) (at1 : Option Addr) (M c1 pb po : Nat) (T : Nat → Nat) (Wr : Nat → Bool) (Ky Vl : Nat → Int) (Nl : Nat → Bool) (rule fr tt so : Nat) (ns : Bool) (at2 : Option Addr) (C c2 qb qo : Nat) (Cx : Nat → Nat) (key : Int) (pre : List UInt8) (w : World)
    (ha0 : 0 < L → at0 = some ⟨xb, xo, none⟩) (hX : ∀ i, i < L → w.cell? ⟨xb, xo + i, none⟩ = some (.int .i64 (X i))) (hXr : ∀ i, i < L → i64 (X i))
    (ha1 : 0 < M → at1 = some ⟨pb, po, none⟩) (hT : ∀ i, i < M → w.cell? ⟨pb, po + i * 5, none⟩ = some (.int .u8 (T i : Int))) (hTr : ∀ i, i < M → T i < 256)
    (hWr : ∀ i, i < M → w.cell? ⟨pb, po + i * 5 + 1, none⟩ = some (.bool (Wr i))) (hKy : ∀ i, i < M → w.cell? ⟨pb, po + i * 5 + 2, none⟩ = some (.int .i64 (Ky i))) (hVl : ∀ i, i < M → w.cell? ⟨pb, po + i * 5 + 3, none⟩ = some (.int .i64 (Vl i))) (hVr : ∀ i, i < M → i64 (Vl i)) (hNl : ∀ i, i < M → w.cell? ⟨pb, po + i * 5 + 4, none⟩ = some (.bool (Nl i)))
    (hrule : rule < 256) (hfr : fr < 4294967296) (hto : tt < 4294967296) (hso : so < 4294967296)
    (ha2 : 0 < C → at2 = some ⟨qb, qo, none⟩) (hCx : ∀ i, i < C → w.cell? ⟨qb, qo + i, none⟩ = some (.int .u32 (Cx i : Int))) (hCr : ∀ i, i < C → Cx i < 4294967296)
    (hkey : i64 key) (htab : Tab w) (hlen : L + M + C + pre.length ≤ 65536) :
    Calls Ybad.prog 3 #[.slice at0 L c0, .slice at1 M c1, .int .u8 (rule : Int), .int .u32 (fr : Int), .int .u32 (tt : Int), .int .u32 (so : Int), .bool ns, .slice at2 C c2, .int .i64 key, .string ⟨pre.toArray⟩] w fun e w' => e = .returned (.bool true) ∧ Below w.heap.size w w' := by
  have HX0 := hid ha0
  have HX := hid hX
  have HXr := hid hXr
  have HO := hid ha1
  have HT := hid hT
  have HTr := hid hTr
  have HWr := hid hWr
  have HKy := hid hKy
  have HVl := hid hVl
  have HVr := hid hVr
  have HNl := hid hNl
  have HC0 := hid ha2
  have HC := hid hCx
  have HCr := hid hCr
  have HK := hid hkey
  have HTab := hid htab
  clear ha0 hX hXr ha1 hT hTr hWr hKy hVl hVr hNl ha2 hCx hCr hkey htab
  have hd1 : decide ((65536 : Int) < (L : Int) + (M : Int) + (C : Int) + (pre.length : Int)) = false := decide_eq_false (by omega)
  go_enter Ybad.func3, Ybad.ntmps3
  go_upto_if 64 with (go_at_call 4; refine (clone4_any at0 xb xo L c0 X w (by omega) HX0.out HX.out).mono ?_; rintro e w1 ⟨v1, rfl, hv1, hb1⟩; obtain ⟨ao, cp, rfl, hao⟩ := vec_slice hv1)
  go_cut [21] from 65 to 65 (fun v wx => ∃ n xg xc ix, v = .slice (some ⟨xg, 0, none⟩) n xc ∧ Idx w wx xg n ix)
  case first =>
    by_cases hL0 : L = 0
    · subst hL0
      go_wp2
      go_meet
      exact ⟨1, _, _, fun _ => 0, rfl, by omega, by omega, fun i hi => by (obtain rfl : i = 0 := by omega); simp, fun _ _ => by unfold i64; omega, hb1.alloc (by have := hb1.size; omega) _⟩
    · obtain ⟨g, rfl⟩ := hao (by omega)
      have hL1 : ((L : Int) == 0) = false := by simp; omega
      go_wp2
      go_meet
      exact ⟨L, g, _, X, rfl, by omega, by omega, fun i hi => hv1.cell (by omega), HXr.out, hb1⟩
  case rest =>
    clear hv1 hb1 hao
    obtain ⟨w1, hw1⟩ : ∃ w1, w1 = wc := ⟨_, rfl⟩
    subst hw1
    obtain ⟨n, xg, xc, ix, rfl, hI⟩ := hcut
    clear hd1 HX0 HX HXr
    have hn0 := hI.n0
    have hn1 := hI.n1
    have HI := hid hI
    clear hI
    have hmk := make27 n (by omega)
    have hst := tx_start w1 ix n
    go_upto_block 0 with fail
    go_cut [24] from 70 to 82 (fun _ wx => wx.rowIs w1.heap.size 31 (n * 3) (txF ix (fun _ => .slice none 0 0) n) ∧ Below w1.heap.size w1 wx)
    case first =>
      go_wp2_with fail
      go_loopw [24] (fun i wr => ∃ k : Nat, k ≤ n ∧ i = .int .i64 k ∧ wr.rowIs w1.heap.size 31 (n * 3) (txF ix (fun _ => .slice none 0 0) k) ∧ Below w1.heap.size w1 wr) (fun i _ => n - (intOf i).toNat)
      case atStart => exact ⟨0, Nat.zero_le _, rfl, hst, (Below.refl _ _).alloc (Nat.le_refl _) _⟩
      case round =>
        obtain ⟨k, hk, rfl, hrow, hbel⟩ := hrel
        clear hst
        by_cases hkn : k < n
        · have g0 := cell_grow hbel (HI.out.cell k hkn)
          have r0 := hrow.cell (i := k * 3) (by omega)
          have f0 := hrow.frozen (k * 3)
          go_wp2
          go_roundw
          case rel => exact ⟨k + 1, by omega, by go_num, tx_index hrow, hbel.setCell (by simp) _⟩
          case measure => simp [intOf]; omega
        · obtain rfl : k = n := by omega
          go_wp2
          go_meet
          exact ⟨hrow, hbel⟩
    case rest =>
      obtain ⟨w2, hw2⟩ : ∃ w2, w2 = wc := ⟨_, rfl⟩
      subst hw2
      obtain ⟨hrow, hbel⟩ := hcut
      clear hst hmk
      have hinv : Inv w1 w2 w1.heap.size n ix (fun _ => .slice none 0 0) (fun _ => 0) (fun _ _ => ⟨false, 0, 0, false⟩) := ⟨hrow, fun i hi => Vec.nil _ _ _ _ _, fun i j _ _ _ b hb => by simp [Value.ownBlock] at hb, hbel, Nat.le_refl _⟩
      have HV0 := hid hinv
      clear hinv hrow hbel
      go_upto_block 2 with fail
      go_cut [25, 26, 27] from 83 to 117 (fun _ _ _ wx => ∃ V cnt F, InvB w1 wx w1.heap.size n ix V cnt F M)
      case first =>
        go_wp2_with fail
        go_loopw [25, 26, 27] (fun i _ _ wr => ∃ (k : Nat) (V : Nat → Value) (cnt : Nat → Nat) (F : Nat → Nat → OpV), k ≤ M ∧ i = .int .i64 k ∧ InvB w1 wr w1.heap.size n ix V cnt F k) (fun i _ _ _ => M - (intOf i).toNat)
        case atStart => exact ⟨0, _, _, _, Nat.zero_le _, rfl, HV0.out, fun _ _ => Nat.le_refl _, fun _ _ _ h => by omega⟩
        case round =>
          obtain ⟨k, V, cnt, F, hk, rfl, hinv⟩ := hrel
          clear HV0
          by_cases hkM : k < M
          · obtain rfl := HO.out (by omega)
            have hbw := HI.out.bel.trans (below_le hinv.inv.bel HI.out.bel.size)
            have g0 := bcell hbw (HT.out k hkM)
            have g1 := bcell hbw (HWr.out k hkM)
            have g2 := bcell hbw (HKy.out k hkM)
            have g3 := bcell hbw (HVl.out k hkM)
            have g4 := bcell hbw (HNl.out k hkM)
            clear hbw
            have ht := HTr.out k hkM
            have htn : T k % n < n := Nat.mod_lt _ hn0
            have r0 := hinv.inv.row.cell (i := T k % n * 3 + 2) (by omega)
            rw [txF2] at r0
            have rlt := hinv.inv.row.lt
            have em : ((T k : Int) % (n : Int)) = ((T k % n : Nat) : Int) := (Int.natCast_emod _ _).symm
            have HEM := hid em
            clear em
            have HINV := hid hinv
            clear hinv
            go_wp2
            rw [HEM.out]
            clear HEM
            obtain ⟨t0, ht0⟩ : ∃ t0 : Nat, t0 = T k % n := ⟨_, rfl⟩
            rw [← ht0] at htn r0 ⊢
            clear ht0
            obtain ⟨b3, cap3, w3, hrun, hc3, hf3, hoth, hinv3⟩ := inv_app (HINV.out.inv.alloc (.cells #[.int .u8 (T k : Int), .bool (Wr k), .int .i64 (Ky k), .int .i64 (Vl k), .bool (Nl k)] 33)).drew (t0) htn ⟨Wr k, Ky k, Vl k, Nl k⟩ (by have := HINV.out.le _ htn; omega)
            have HI3 := hid hinv3
            clear hinv3
            have hrun' : (Builtin.append_ #[29, 29] 29 #[V (t0), .slice (some ⟨wr.heap.size + 1, 0, none⟩) 1 1]).run Ybad.prog (((wr.alloc (.cells #[.int .u8 (T k : Int), .bool (Wr k), .int .i64 (Ky k), .int .i64 (Vl k), .bool (Nl k)] 33)).alloc (.cells #[.bool (Wr k), .int .i64 (Ky k), .int .i64 (Vl k), .bool (Nl k)] 35)).drew) = .ok (.slice (some ⟨b3, 0, none⟩) (cnt (t0) + 1) cap3) w3 := by
              rw [show ((wr.alloc (.cells #[.int .u8 (T k : Int), .bool (Wr k), .int .i64 (Ky k), .int .i64 (Vl k), .bool (Nl k)] 33)).drew).heap.size = wr.heap.size + 1 from Deep.nblk_alloc _ _] at hrun
              exact hrun
            clear hrun hoth
            go_big_region
            clear hrun' hc3 hf3 r0
            go_wp2
            go_roundw
            case rel => exact ⟨k + 1, _, _, _, by omega, by go_num, HINV.out.app HI3.out htn (HVr.out k hkM)⟩
            case measure => simp [intOf]; omega
          · obtain rfl : k = M := by omega
            go_wp2
            go_meet
            exact ⟨V, cnt, F, hinv⟩
      case rest =>
        obtain ⟨w3, hw3⟩ : ∃ w3, w3 = wc := ⟨_, rfl⟩
        subst hw3
        have HIV := hid hcut
        clear hcut HV0 HO HT HTr HWr HKy HVl HVr HNl
        go_upto_block 4 with fail
        go_cut [28] from 118 to 145 (fun _ wx => ∃ V cnt F, InvB w1 wx w1.heap.size n ix V cnt F (M + n) ∧ Rd key cnt F n)
        case first =>
          go_wp2_with fail
          go_loopw [28] (fun i wr => ∃ (k : Nat) (V : Nat → Value) (cnt : Nat → Nat) (F : Nat → Nat → OpV), k ≤ n ∧ i = .int .i64 k ∧ InvB w1 wr w1.heap.size n ix V cnt F (M + k) ∧ Rd key cnt F k) (fun i _ => n - (intOf i).toNat)
          case atStart =>
            obtain ⟨V, cnt, F, h⟩ := HIV.out
            exact ⟨0, V, cnt, F, Nat.zero_le _, rfl, h, fun _ h => by omega⟩
          case round =>
            obtain ⟨k, V, cnt, F, hk, rfl, hinv, hrd⟩ := hrel
            clear HIV
            by_cases hkn : k < n
            · have g0 := cell_grow hinv.inv.bel (HI.out.cell k hkn)
              have r0 := hinv.inv.row.cell (i := k * 3 + 2) (by omega)
              rw [txF2] at r0
              have rlt := hinv.inv.row.lt
              have HINV := hid hinv
              have HRD := hid hrd
              clear hinv hrd
              go_wp2
              obtain ⟨b4, cap4, w4, hrun, hc4, hf4, _, hinv4⟩ := inv_app HINV.out.inv.drew k hkn ⟨false, key, ix k, (ix k).tmod 2 == 0⟩ (by have := HINV.out.le _ hkn; omega)
              have HI4 := hid hinv4
              clear hinv4
              have hrun' : (Builtin.append_ #[29, 29] 29 #[V k, .slice (some ⟨wr.heap.size, 0, none⟩) 1 1]).run Ybad.prog ((wr.alloc (.cells #[.bool false, .int .i64 key, .int .i64 (ix k), .bool ((ix k).tmod 2 == 0)] 35)).drew) = .ok (.slice (some ⟨b4, 0, none⟩) (cnt k + 1) cap4) w4 := hrun
              clear hrun
              go_big_region
              clear hrun' hc4 hf4 r0
              go_wp2
              go_roundw
              case rel => exact ⟨k + 1, _, _, _, by omega, by go_num, HINV.out.app HI4.out hkn (HI.out.rng k hkn), HRD.out.app rfl rfl⟩
              case measure => simp [intOf]; omega
            · obtain rfl : k = n := by omega
              go_wp2
              go_meet
              exact ⟨V, cnt, F, hinv, hrd⟩
        case rest =>
          obtain ⟨w4, hw4⟩ : ∃ w4, w4 = wc := ⟨_, rfl⟩
          subst hw4
          obtain ⟨V, cnt, F, hinv, hrd⟩ := hcut
          clear HIV
          have HINV := hid hinv
          have HRD := hid hrd
          clear hinv hrd
          have hmk := make36 n (by omega)
          have hst := cp_start w4 n
          go_upto_block 6 with fail
          go_cut [30] from 148 to 161 (fun _ wx => ∃ V2, Cp w4 wx n cnt F V2 n)
          case first =>
            go_wp2_with fail
            go_loopw [30] (fun i wr => ∃ (k : Nat) (V2 : Nat → Value), k ≤ n ∧ i = .int .i64 k ∧ Cp w4 wr n cnt F V2 k) (fun i _ => n - (intOf i).toNat)
            case atStart => exact ⟨0, fun _ => .slice none 0 0, Nat.zero_le _, rfl, hst, fun _ h => by omega, (Below.refl _ _).alloc (Nat.le_refl _) _⟩
            case round =>
              obtain ⟨k, V2, hk, rfl, hcp⟩ := hrel
              clear hst
              by_cases hkn : k < n
              · have r0 := cell_grow hcp.bel (HINV.out.inv.row.cell (i := k * 3 + 2) (by omega))
                rw [txF2] at r0
                obtain ⟨j0, hj0, _⟩ := HRD.out k hkn
                have hle := HINV.out.le k hkn
                rcases (HINV.out.inv.vec k hkn).shape with ⟨_, h0⟩ | ⟨bk, ck, hvk, _⟩
                · omega
                have hvec := HINV.out.inv.vec k hkn
                rw [hvk] at r0 hvec
                have hcl := hid (clone5_pos bk (cnt k) ck (F k) wr (by omega) (fun i hi => cell_grow hcp.bel (hvec.cell hi)))
                clear hvec
                have HCP := hid hcp
                clear hcp
                go_wp2_with (go_at_call 5; refine hcl.out.mono ?_; rintro e wb ⟨vb, rfl, hvb, hbb⟩; obtain ⟨av, cv, rfl, _⟩ := vec_slice hvb; have hrow2 := hid (HCP.out.row.of_block (hbb.block _ HCP.out.row.lt)); have q0 := hrow2.out.cell (i := k) hkn; have f0 := hrow2.out.frozen k; have hlt2 := hrow2.out.lt)
                go_roundw
                case rel => exact ⟨k + 1, upd V2 k (.slice av (cnt k) cv), by omega, by go_num, HCP.out.step hbb hvb⟩
                case measure => simp [intOf]; omega
              · obtain rfl : k = n := by omega
                go_wp2
                go_meet
                exact ⟨V2, hcp⟩
          case rest =>
            obtain ⟨w5, hw5⟩ : ∃ w5, w5 = wc := ⟨_, rfl⟩
            subst hw5
            obtain ⟨V2, hcp⟩ := hcut
            have HCP := hid hcp
            have hb45 := hcp.bel
            clear hst hmk hcp
            go_upto_block 8 with fail
            obtain ⟨w6, hw6⟩ : ∃ w6, w6 = w5.alloc (.cells #[.slice (some ⟨w1.heap.size, 0, none⟩) n n] 40) := ⟨_, rfl⟩
            rw [← hw6]
            have hH : w6.cell? ⟨w5.heap.size, 0, none⟩ = some (.slice (some ⟨w1.heap.size, 0, none⟩) n n) := by rw [hw6]; simp
            have hb56 : Below w5.heap.size w5 w6 := by rw [hw6]; exact below_alloc _ _
            clear hw6
            have hb6 : Below w.heap.size w w6 := ((HI.out.bel.trans (below_le HINV.out.inv.bel HI.out.bel.size)).trans (below_le hb45 (Nat.le_trans HI.out.bel.size HINV.out.inv.bel.size))).trans (below_le hb56 (Nat.le_trans (Nat.le_trans HI.out.bel.size HINV.out.inv.bel.size) hb45.size))
            have HH6 := hid hH
            have HB45 := hid hb45
            have HB56 := hid hb56
            have HB6 := hid hb6
            clear hH hb45 hb56 hb6
            go_cut [32, 33] from 165 to 179 (fun v _ wx => Vec wx w6.heap.size 21 1 v C (fun i => .int .i32 ((Cx i % n : Nat) : Int)) ∧ Below w6.heap.size w6 wx)
            case first =>
              go_wp2_with fail
              go_loopw [33, 32] (fun i v wr => ∃ k : Nat, k ≤ C ∧ i = .int .i64 k ∧ Vec wr w6.heap.size 21 1 v k (fun i => .int .i32 ((Cx i % n : Nat) : Int)) ∧ Below w6.heap.size w6 wr) (fun i _ _ => C - (intOf i).toNat)
              case atStart => exact ⟨0, Nat.zero_le _, rfl, Vec.nil _ _ _ _ _, Below.refl _ _⟩
              case round =>
                obtain ⟨k, hk, rfl, hv, hb⟩ := hrel
                by_cases hkC : k < C
                · obtain rfl := HC0.out (by omega)
                  have g0 := cell_grow (HB6.out.trans (below_le hb HB6.out.size)) (HC.out k hkC)
                  have hm := hid (mod_any (Cx k) n wr (HCr.out k hkC) hn0 hn1)
                  have hva := hv.alloc (.cells #[.int .i32 ((Cx k % n : Nat) : Int)] 21)
                  obtain ⟨b7, cap7, w7, hap, hV7, hgr7, _, _⟩ := run_append_vec Ybad.prog (wr.alloc (.cells #[.int .i32 ((Cx k % n : Nat) : Int)] 21)) w6.heap.size 41 41 21 _ 1 4 Ybad.underlying41 Ybad.info21 rfl (by decide) _ k (fun i => .int .i32 ((Cx i % n : Nat) : Int)) hva ⟨wr.heap.size, 0, none⟩ 1 1 (by decide) (fun _ => .int .i32 ((Cx k % n : Nat) : Int)) (fun i => .int .i32 ((Cx i % n : Nat) : Int))
                    (fun j hj => by (obtain rfl : j = 0 := by omega); rw [add_zero_plain]; simp) (fun _ _ => rfl) (fun _ _ => rfl) (fun j hj => by (obtain rfl : j = 0 := by omega); simp) (by unfold maxLen; omega) (by omega) (by have := hb.size; rw [Deep.nblk_alloc]; omega)
                  have HAP := hid hap
                  have HV7 := hid hV7
                  have hbel7 : Below w6.heap.size w6 w7 := (hb.alloc hb.size _).grown hgr7 (by rw [Deep.nblk_alloc]; have := hb.size; omega) (fun c hc => (World.ownsRow.lt hva c hc).1)
                  have HB7 := hid hbel7
                  obtain ⟨av, cv, rfl, _⟩ := vec_slice hv
                  clear hap hV7 hgr7 hv hb hbel7 hva
                  go_wp2_with (first
                    | (go_at_call 6; refine hm.out.mono ?_; rintro e wz ⟨rfl, rfl⟩)
                    | (at_builtin; refine wpList_append_run rfl (.tmp 171) (.tmp 178) 41 41 rfl rfl rfl rfl HAP.out ?_))
                  go_roundw
                  case rel => exact ⟨k + 1, by omega, by go_num, HV7.out, HB7.out⟩
                  case measure => simp [intOf]; omega
                · obtain rfl : k = C := by omega
                  go_wp2
                  go_meet
                  exact ⟨hv, hb⟩
            case rest =>
              obtain ⟨w7, hw7⟩ : ∃ w7, w7 = wc := ⟨_, rfl⟩
              subst hw7
              obtain ⟨hv7, hb7⟩ := hcut
              obtain ⟨av, cv, rfl, hav⟩ := vec_slice hv7
              have HV7 := hid hv7
              have HB7 := hid hb7
              have HAV := hid hav
              clear hv7 hb7 hav HC0 HC HCr
              go_upto_if 191 with (first
                | (go_at_call 7; refine (clone7_any _ w6.heap.size C _ _ (by omega) HV7.out).mono ?_; rintro e w8 ⟨v8, rfl, hv8, hb8⟩; obtain ⟨a8, c8, rfl, hav8⟩ := vec_slice hv8; have HV8 := hid hv8; have HB8 := hid hb8; clear hv8 hb8 hav8)
                | (go_at_call 6; refine (mod_md _ n _ (by assumption) hn0 hn1).mono ?_; rintro e wz ⟨rfl, hz⟩; obtain rfl := hz.symm))
              have hfn := md_lt fr hn0
              have htn := md_lt tt hn0
              have hsn := md_lt so hn0
              obtain ⟨f, hf⟩ : ∃ f, f = md fr n := ⟨_, rfl⟩
              obtain ⟨t, ht⟩ : ∃ t, t = md tt n := ⟨_, rfl⟩
              obtain ⟨sr, hsr⟩ : ∃ sr, sr = md so n := ⟨_, rfl⟩
              rw [← hf, ← ht, ← hsr]
              rw [← hf] at hfn
              rw [← ht] at htn
              rw [← hsr] at hsn
              clear hf ht hsr
              obtain ⟨src, hsrc⟩ : ∃ src : Option Nat, src = if ns = true then none else some sr := ⟨_, rfl⟩
              have HSrc := hid hsrc
              clear hsrc
              go_cut [37] from 191 to 191 (fun v wx => v = .int .i32 (wrI src) ∧ w8 = wx)
              case first =>
                cases ns <;> (go_wp2; go_meet; exact ⟨by rw [HSrc.out]; rfl, rfl⟩)
              case rest =>
                obtain ⟨rfl, rfl⟩ := hcut
                have hsrcn : ∀ q, src = some q → q < n := by
                  intro q hq
                  rw [HSrc.out] at hq
                  cases ns with
                  | true => simp at hq
                  | false => simp at hq; omega
                clear HSrc
                go_upto_region 41 with fail
                obtain ⟨r, hr3, hre⟩ : ∃ r : Nat, r < 3 ∧ ((rule : Int) % 3) = (r : Int) := ⟨rule % 3, by omega, by omega⟩
                rw [hre]
                clear hre
                obtain ⟨w9, hw9⟩ : ∃ w9, w9 = w8.alloc (.cells #[.int .i32 (f : Int), .int .i32 (t : Int), .int .i32 0, .int .u8 (r : Int), .int .i32 (wrI src), .slice av C cv] 47) := ⟨_, rfl⟩
                rw [← hw9]
                have hS : StepAt w9 w8.heap.size f t (r : Int) src (.slice av C cv) := by rw [hw9]; constructor <;> simp
                have hb89 : Below w8.heap.size w8 w9 := by rw [hw9]; exact below_alloc _ _
                clear hw9
                have hb79 : Below w7.heap.size w7 w9 := HB8.out.trans (below_le hb89 HB8.out.size)
                have hb69 : Below w6.heap.size w6 w9 := HB7.out.trans (below_le hb79 HB7.out.size)
                have hb59 : Below w5.heap.size w5 w9 := HB56.out.trans (below_le hb69 HB56.out.size)
                have hb49 : Below w4.heap.size w4 w9 := HB45.out.trans (below_le hb59 HB45.out.size)
                have hbw9 : Below w.heap.size w w9 := HB6.out.trans (below_le hb69 HB6.out.size)
                have HHist := hid (hist_of (Hb := w5.heap.size) HINV.out HRD.out hn1 (by omega) HI.out.rng hb49 (HTab.out.grow hbw9) (cell_grow hb69 HH6.out))
                obtain ⟨fq, hfq⟩ := firsts_of (n := n) (om := cnt) (ops := F) (key := key) (fun i hi => HRD.out i hi)
                have HFq := hid hfq
                have HS := hid hS
                have HB89 := hid hb89
                have HB79 := hid hb79
                have HB69 := hid hb69
                have HB59 := hid hb59
                have HB49 := hid hb49
                have HBw9 := hid hbw9
                have HCH : Hid (∃ cb, (0 < C → av = some ⟨cb, 0, none⟩) ∧ ∀ j, j < C → w9.cell? ⟨cb, j, none⟩ = some (.int .i32 ((Cx j % n : Nat) : Int))) := by
                  by_cases h0 : 0 < C
                  · obtain ⟨cb, rfl⟩ := HAV.out h0
                    exact ⟨cb, fun _ => rfl, fun j hj => cell_grow hb79 (HV7.out.cell (by omega))⟩
                  · exact ⟨0, fun h => absurd h h0, fun j hj => by omega⟩
                clear hS hb89 hb79 hb69 hb59 hb49 hbw9 hfq
                go_upto_region 42 with fail
                have hT0 : Tx w9 w9.heap.size (.pointer (some ⟨w5.heap.size, 0, none⟩)) (w9.alloc (.cells #[.pointer none, .slice none 0 0, .pointer (some ⟨w5.heap.size, 0, none⟩)] 54)) [] :=
                  ⟨below_alloc _ _, Nat.le_refl _, _, _, .inl rfl, Deep.blk_alloc_new _ _, World.ownsRow_nil _ _ _ _⟩
                have HT0 := hid hT0
                clear hT0
                have hcap1 : ([] : List UInt8).length + pre.length ≤ cap46 := by unfold cap46; simp; omega
                have hcap2 : (([] : List UInt8) ++ pre).length + C * 63 + 1000 ≤ cap46 := by unfold cap46; simp; omega
                obtain ⟨cb, hcb1, hcb2⟩ := HCH.out
                have HCB1 := hid hcb1
                have HCB2 := hid hcb2
                clear hcb1 hcb2 HCH
                go_upto_region 47 with (first
                  | (go_at_call 8; refine (write_any w9 w9.heap.size _ [] pre _ HT0.out hcap1).mono ?_; rintro e w11 ⟨⟨nn, rfl⟩, hT1, _⟩; have HT1 := hid hT1; clear hT1)
                  | (go_at_call 9; refine (step_any w9 w9.heap.size w8.heap.size f t C cv cb r src av (fun j => Cx j % n) key fq _ _ HHist.out hr3 HS.out HCB1.out HCB2.out (fun j _ => Nat.mod_lt _ hn0) (by omega) HT1.out HFq.out HK.out hfn htn hsrcn hcap2).mono ?_; rintro e w12 ⟨rfl, hT2⟩; have HT2 := hid hT2; clear hT2)
                  | (go_at_call 10; refine (string_any w9 w9.heap.size _ _ _ HT2.out (by simp [say_ne])).mono ?_; rintro e w13 ⟨rfl, hb13⟩; have HB13 := hid hb13; clear hb13)
                  | (go_at_call 11; refine (fmt_any key HK.out _ (HHist.out.tab.grow HB13.out)).mono ?_; rintro e w14 ⟨rfl, hb14⟩; have HB14 := hid hb14; clear hb14))
                go_upto_block 10 with fail
                have HE14 : Hid (Below w9.heap.size w9 w14) := HB13.out.trans (below_le HB14.out HB13.out.size)
                have HH14 := hid (HHist.out.grow HE14.out)
                have hvr : i64 (F t (fq t)).val := HHist.out.opr t htn _ (HFq.out t htn).lt
                have lnf := nameL_length _ (HI.out.rng f hfn)
                have lnt := nameL_length _ (HI.out.rng t htn)
                have lky := Lib.itoa_length_le _ HK.out.1 HK.out.2
                obtain ⟨sy, hsy⟩ : ∃ sy, sy = say ix (fun t => F t (fq t)) key f t src (fun j => Cx j % n) C r := ⟨_, rfl⟩
                rw [← hsy]
                have HSY := hid hsy
                clear hsy HT0 HT1 HT2 HB13 HB14
                go_cut [43, 44, 45, 46] from 220 to 325 (fun v _ _ _ wx => v = .string ⟨sy.toArray⟩ ∧ Below w9.heap.size w9 wx)
                case first =>
                  obtain rfl | rfl | rfl : r = 0 ∨ r = 1 ∨ r = 2 := by omega
                  · have lv := valL_length ix (F t (fq t)) (some f) hvr (fun t' h' => by cases h'; exact HI.out.rng f hfn)
                    go_wp2_with (first
                      | (go_at_call 13; refine (val_any (F t (fq t)) (some f) _ HH16.out hvr (fun t' h' => by cases h'; exact hfn)).mono ?_; rintro e w17 ⟨rfl, hb17⟩; have HH17 := hid (HH16.out.grow hb17); have HE17 := hid (HE16.out.trans (below_le hb17 HE16.out.size)); clear hb17)
                      | (go_at_call 14; refine (first_any t (fq t) key _ HH15.out htn (HFq.out t htn)).mono ?_; rintro e w16 ⟨rfl, hb16⟩; have HH16 := hid (HH15.out.grow hb16); have HE16 := hid (HE15.out.trans (below_le hb16 HE15.out.size)); clear hb16)
                      | (go_at_call 12; refine (name_any _ _ HH14.out (by assumption)).mono ?_; rintro e w15 ⟨rfl, hb15⟩; have HH15 := hid (HH14.out.grow hb15); have HE15 := hid (HE14.out.trans (below_le hb15 HE14.out.size)); clear hb15))
                    go_meet
                    refine ⟨?_, HE17.out⟩
                    rw [HSY.out]
                    simp only [cat2, say, say0, readsL, if_true, List.append_assoc]
                  · obtain ⟨ch, hch⟩ : ∃ ch : Nat → Nat, ch = fun j => Cx j % n := ⟨_, rfl⟩
                    have hchn : ∀ j, j < C → ch j < n := fun j _ => by rw [hch]; exact Nat.mod_lt _ hn0
                    have HV8' : Hid (Vec w14 w7.heap.size 21 1 (.slice a8 C c8) C (fun i => .int .i32 (ch i : Int))) := by
                      rw [hch]
                      exact vec_grow (vec_grow HV8.out HB89.out) HE14.out
                    rw [← hch] at HSY
                    clear hch
                    have hsqn := sq_lt (m := C) hfn hchn
                    have HSQN := hid hsqn
                    have hseq0 : Vec (w14.alloc (.cells #[.int .i32 (f : Int)] 21)) w14.heap.size 21 1 (.slice (some ⟨w14.heap.size, 0, none⟩) 1 1) 1 (fun j => .int .i32 (sq f ch C j : Int)) :=
                      Vec.of_row ⟨_, Deep.blk_alloc_new _ _, rfl, fun i hi => by (obtain rfl : i = 0 := by omega); simp [sq]⟩ (Nat.le_refl _) (by unfold maxLen; omega)
                    have HSEQ0 := hid hseq0
                    clear hsqn hseq0
                    rw [show ((1 : Nat) : Int) = 1 from rfl]
                    go_upto_block 11 with fail
                    go_cut [44, 45] from 270 to 280 (fun v _ wx => Vec wx w14.heap.size 21 1 v (C + 1) (fun j => .int .i32 (sq f ch C j : Int)) ∧ Below w14.heap.size w14 wx)
                    case first =>
                      go_wp2_with fail
                      go_loopw [45, 44] (fun k v wr => ∃ i : Nat, i ≤ C ∧ k = .int .i64 (((C - i : Nat) : Int) - 1) ∧ Vec wr w14.heap.size 21 1 v (i + 1) (fun j => .int .i32 (sq f ch C j : Int)) ∧ Below w14.heap.size w14 wr) (fun k _ _ => (intOf k + 1).toNat)
                      case atStart => exact ⟨0, Nat.zero_le _, by simp, HSEQ0.out, below_alloc _ _⟩
                      case round =>
                        obtain ⟨i, hi, rfl, hv, hb⟩ := hrel
                        by_cases hiC : i < C
                        · obtain ⟨kk, hkk⟩ : ∃ kk, C - i = kk + 1 := ⟨C - i - 1, by omega⟩
                          have ek : (((C - i : Nat) : Int) - 1) = (kk : Int) := by omega
                          have es : sq f ch C (i + 1) = ch kk := by unfold sq; rw [if_neg (by omega)]; congr 1; omega
                          have hkC : kk < C := by omega
                          rw [ek]
                          have hv8 := vec_grow HV8'.out hb
                          obtain ⟨a9, c9, he9, hpos⟩ := vec_slice hv8
                          obtain ⟨g9, hg9⟩ := hpos (by omega)
                          simp only [Value.slice.injEq, true_and] at he9
                          obtain ⟨rfl, rfl⟩ := he9
                          subst hg9
                          have g0 := hv8.cell (j := kk) (by omega)
                          obtain ⟨ck, hck⟩ : ∃ ck, ck = ch kk := ⟨_, rfl⟩
                          rw [← hck] at g0 es
                          have hva := hv.alloc (.cells #[.int .i32 (ck : Int)] 21)
                          obtain ⟨b7, cap7, wn, hap, hVn, hgrn, _, _⟩ := run_append_vec Ybad.prog (wr.alloc (.cells #[.int .i32 (ck : Int)] 21)) w14.heap.size 41 41 21 _ 1 4 Ybad.underlying41 Ybad.info21 rfl (by decide) _ (i + 1) (fun j => .int .i32 (sq f ch C j : Int)) hva ⟨wr.heap.size, 0, none⟩ 1 1 (by decide) (fun _ => .int .i32 (ck : Int)) (fun j => .int .i32 (sq f ch C j : Int))
                            (fun j hj => by (obtain rfl : j = 0 := by omega); rw [add_zero_plain]; simp) (fun _ _ => rfl) (fun _ _ => rfl) (fun j hj => by (obtain rfl : j = 0 := by omega); simp [es]) (by unfold maxLen; omega) (by omega) (by have := hb.size; rw [Deep.nblk_alloc]; omega)
                          have HAP := hid hap
                          have HVn := hid hVn
                          have hbn : Below w14.heap.size w14 wn := (hb.alloc hb.size _).grown hgrn (by rw [Deep.nblk_alloc]; have := hb.size; omega) (fun c hc => (World.ownsRow.lt hva c hc).1)
                          have HBn := hid hbn
                          obtain ⟨av', cv', rfl, _⟩ := vec_slice hv
                          have HKK := hid hkk
                          have EK := hid ek
                          clear hap hVn hgrn hv hb hbn hva hv8 hpos es hck hkk ek
                          go_wp2_with (at_builtin; refine wpList_append_run rfl (.tmp 274) (.tmp 279) 41 41 rfl rfl rfl rfl HAP.out ?_)
                          go_roundw
                          case rel => exact ⟨i + 1, by omega, by (have := HKK.out); go_num, HVn.out, HBn.out⟩
                          case measure => simp [intOf]
                        · obtain rfl : i = C := by omega
                          go_wp2
                          go_meet
                          exact ⟨hv, hb⟩
                    case rest =>
                      obtain ⟨w15, hw15⟩ : ∃ w15, w15 = wc := ⟨_, rfl⟩
                      subst hw15
                      obtain ⟨hsq, hb15⟩ := hcut
                      have HE15 : Hid (Below w9.heap.size w9 w15) := HE14.out.trans (below_le hb15 HE14.out.size)
                      have HH15 := hid (HHist.out.grow HE15.out)
                      obtain ⟨sa, sc, rfl, hpos⟩ := vec_slice hsq
                      obtain ⟨sg, rfl⟩ := hpos (by omega)
                      have HSQ := hid hsq
                      clear hsq hb15 hpos HSEQ0
                      go_upto_block 13 with (go_at_call 12; refine (name_any _ _ HH15.out (by assumption)).mono ?_; rintro e w16 ⟨rfl, hb16⟩; have HH16 := hid (HH15.out.grow hb16); have HE16 := hid (HE15.out.trans (below_le hb16 HE15.out.size)); have HSQ16 := hid (vec_grow HSQ.out hb16); clear hb16)
                      have hrl := readsL_length ix f key (HI.out.rng f hfn) HK.out
                      have hop : ∀ i, i ≤ C → i64 (F (sq f ch C i) (fq (sq f ch C i))).val := fun i hi => HHist.out.opr _ (HSQN.out i hi) _ (HFq.out _ (HSQN.out i hi)).lt
                      have HOP := hid hop
                      have HCL := hid (chainL_length ix (fun t => F t (fq t)) (sq f ch C) C hop (fun i hi => HI.out.rng _ (HSQN.out i hi)))
                      clear hop
                      go_cut [43, 46] from 288 to 311 (fun v _ wx => v = .string ⟨(readsL ix f key ++ chainL ix (fun t => F t (fq t)) (sq f ch C) C).toArray⟩ ∧ Below w16.heap.size w16 wx)
                      case first =>
                        go_wp2_with fail
                        go_loopw [46, 43] (fun i v wr => ∃ k : Nat, k ≤ C ∧ i = .int .i64 k ∧ v = .string ⟨(readsL ix f key ++ chainL ix (fun t => F t (fq t)) (sq f ch C) k).toArray⟩ ∧ Below w16.heap.size w16 wr) (fun i _ _ => C - (intOf i).toNat)
                        case atStart =>
                          refine ⟨0, Nat.zero_le _, rfl, ?_, Below.refl _ _⟩
                          simp only [cat2, readsL, chainL, List.append_assoc, List.append_nil]
                        case round =>
                          obtain ⟨k, hk, rfl, rfl, hb⟩ := hrel
                          have hlx := HCL.out k hk
                          obtain ⟨lx, hlxe⟩ : ∃ lx, lx = readsL ix f key ++ chainL ix (fun t => F t (fq t)) (sq f ch C) k := ⟨_, rfl⟩
                          have llx : lx.length ≤ 57 + k * 63 := by rw [hlxe, List.length_append]; omega
                          rw [← hlxe]
                          have HLX := hid hlxe
                          clear hlxe hlx
                          by_cases hkC : k < C
                          · obtain ⟨si, hsi⟩ : ∃ si, si = sq f ch C k := ⟨_, rfl⟩
                            obtain ⟨sj, hsj⟩ : ∃ sj, sj = sq f ch C (k + 1) := ⟨_, rfl⟩
                            have hin := HSQN.out k hk
                            have hjn := HSQN.out (k + 1) (by omega)
                            have hvi := HOP.out k hk
                            rw [← hsi] at hin hvi
                            rw [← hsj] at hjn
                            have hvk := vec_grow HSQ16.out hb
                            have s0 := hvk.cell (j := k) (by omega)
                            have s1 := hvk.cell (j := k + 1) (by omega)
                            rw [← hsi] at s0
                            rw [← hsj] at s1
                            have lv := valL_length ix (F si (fq si)) (some sj) hvi (fun t' h' => by cases h'; exact HI.out.rng sj hjn)
                            have HHk := hid (HH16.out.grow hb)
                            have HBk := hid hb
                            have HVK := hid hvk
                            have HSI := hid hsi
                            have HSJ := hid hsj
                            clear hb hvk hsi hsj
                            go_wp2
                            obtain ⟨k1, hk1⟩ : ∃ k1, k1 = k + 1 := ⟨_, rfl⟩
                            obtain ⟨m1, hm1⟩ : ∃ m1, m1 = C + 1 := ⟨_, rfl⟩
                            have e1 : k1 < m1 := by omega
                            have e2 : k < m1 := by omega
                            have hwA : IntKind.i64.wrap ((k : Int) + 1) = (k1 : Int) := by rw [IntKind.wrap_i64]; omega
                            rw [← hk1] at s1
                            rw [← hm1]
                            have HM1 := hid hm1
                            clear hk1 hm1
                            go_region_with (first
                              | (go_at_call 14; refine (first_any si (fq si) key _ (HHk.out.grow (Below.drew (Below.refl _ _))) hin (HFq.out si hin)).mono ?_; rintro e w17 ⟨rfl, hb17⟩; have hd17 := (Below.drew (Below.refl wr.heap.size wr)).trans hb17; have HB17 := hid hd17; have HH17 := hid (HHk.out.grow hd17); have z1 := cell_grow hd17 s1; clear hb17 hd17)
                              | (go_at_call 13; refine (val_any (F si (fq si)) (some sj) _ HH17.out hvi (fun t' h' => by cases h'; exact hjn)).mono ?_; rintro e w18 ⟨rfl, hb18⟩; have HB18 := hid (HB17.out.trans (below_le hb18 HB17.out.size)); clear hb18))
                            all_goals
                              clear hwA
                              rw [HM1.out]
                              go_wp2
                              go_roundw
                              case rel =>
                                refine ⟨k + 1, by omega, by go_num, ?_, HBk.out.trans (below_le HB18.out HBk.out.size)⟩
                                simp only [cat2, chainL, HLX.out, ← HSI.out, ← HSJ.out, List.append_assoc]
                              case measure => simp [intOf]; omega
                          · obtain rfl : k = C := by omega
                            go_wp2
                            go_meet
                            exact ⟨by rw [HLX.out], hb⟩
                      case rest =>
                        obtain ⟨w17, hw17⟩ : ∃ w17, w17 = wc := ⟨_, rfl⟩
                        subst hw17
                        obtain ⟨rfl, hb17⟩ := hcut
                        have HE17 : Hid (Below w9.heap.size w9 w17) := HE16.out.trans (below_le hb17 HE16.out.size)
                        have HH17 := hid (HHist.out.grow HE17.out)
                        have hlx := HCL.out C (Nat.le_refl _)
                        obtain ⟨lx, hlxe⟩ : ∃ lx, lx = readsL ix f key ++ chainL ix (fun t => F t (fq t)) (sq f ch C) C := ⟨_, rfl⟩
                        have llx : lx.length ≤ 57 + C * 63 := by rw [hlxe, List.length_append]; omega
                        rw [← hlxe]
                        have HLX := hid hlxe
                        clear hlxe hlx hb17 HCL HOP HSQ HSQ16 HH15 HH16 HE15 HE16 hrl
                        by_cases hC0 : C = 0
                        · have e0 : ((C : Int) == 0) = true := by simp [hC0]
                          have HC0' := hid hC0
                          clear hC0
                          go_wp2_with (go_at_call 12; refine (name_any _ _ HH17.out (by assumption)).mono ?_; rintro e w18 ⟨rfl, hb18⟩; have HE18 := hid (HE17.out.trans (below_le hb18 HE17.out.size)); clear hb18)
                          go_meet
                          refine ⟨?_, HE18.out⟩
                          rw [HSY.out]
                          have ec : commaL C = [] := by unfold commaL; rw [if_pos HC0'.out]
                          simp only [cat2, say, say1, ec, HLX.out, if_true, if_false, List.append_assoc, List.nil_append, show (1 : Nat) = 0 ↔ False by decide]
                        · have e0 : ((C : Int) == 0) = false := by simp [hC0]
                          go_wp2_with (go_at_call 12; refine (name_any _ _ HH17.out (by assumption)).mono ?_; rintro e w18 ⟨rfl, hb18⟩; have HE18 := hid (HE17.out.trans (below_le hb18 HE17.out.size)); clear hb18)
                          go_meet
                          refine ⟨?_, HE18.out⟩
                          rw [HSY.out]
                          have ec : commaL C = [44] := by unfold commaL; rw [if_neg hC0]
                          simp only [cat2, say, say1, ec, HLX.out, if_true, if_false, List.append_assoc, show (1 : Nat) = 0 ↔ False by decide]
                  · have lv := valL_length ix (F t (fq t)) src hvr (fun t' h' => HI.out.rng t' (hsrcn t' h'))
                    go_wp2_with (first
                      | (go_at_call 12; refine (name_any _ _ HH18.out (by assumption)).mono ?_; rintro e w19 ⟨rfl, hb19⟩; have HH19 := hid (HH18.out.grow hb19); have HE19 := hid (HE18.out.trans (below_le hb19 HE18.out.size)); clear hb19)
                      | (go_at_call 13; refine (val_any (F t (fq t)) src _ HH17.out hvr hsrcn).mono ?_; rintro e w18 ⟨rfl, hb18⟩; have HH18 := hid (HH17.out.grow hb18); have HE18 := hid (HE17.out.trans (below_le hb18 HE17.out.size)); clear hb18)
                      | (go_at_call 14; refine (first_any t (fq t) key _ HH16.out htn (HFq.out t htn)).mono ?_; rintro e w17 ⟨rfl, hb17⟩; have HH17 := hid (HH16.out.grow hb17); have HE17 := hid (HE16.out.trans (below_le hb17 HE16.out.size)); clear hb17)
                      | (go_at_call 12; refine (name_any _ _ HH15.out (by assumption)).mono ?_; rintro e w16 ⟨rfl, hb16⟩; have HH16 := hid (HH15.out.grow hb16); have HE16 := hid (HE15.out.trans (below_le hb16 HE15.out.size)); clear hb16)
                      | (go_at_call 12; refine (name_any _ _ HH14.out (by assumption)).mono ?_; rintro e w15 ⟨rfl, hb15⟩; have HH15 := hid (HH14.out.grow hb15); have HE15 := hid (HE14.out.trans (below_le hb15 HE14.out.size)); clear hb15))
                    go_meet
                    refine ⟨?_, HE19.out⟩
                    rw [HSY.out]
                    simp only [cat2, say, say2, if_false, List.append_assoc, show (2 : Nat) = 0 ↔ False by decide, show (2 : Nat) = 1 ↔ False by decide]
                case rest =>
                  obtain ⟨w20, hw20⟩ : ∃ w20, w20 = wc := ⟨_, rfl⟩
                  subst hw20
                  obtain ⟨rfl, hb20⟩ := hcut
                  have lsy : sy.length ≤ C * 63 + 1000 := by
                    rw [HSY.out]
                    exact say_length _ _ _ _ _ _ _ _ _ (HI.out.rng f hfn) (HI.out.rng t htn) HK.out hvr (fun t' h' => HI.out.rng t' (hsrcn t' h')) (fun i hi => HHist.out.opr _ (sq_lt (m := C) hfn (fun j _ => Nat.mod_lt _ hn0) i hi) _ (HFq.out _ (sq_lt (m := C) hfn (fun j _ => Nat.mod_lt _ hn0) i hi)).lt) (fun i hi => HI.out.rng _ (sq_lt (m := C) hfn (fun j _ => Nat.mod_lt _ hn0) i hi))
                  have hS20 := HS.out.grow hb20
                  have z0 := hS20.c0
                  have z1 := hS20.c1
                  have z2 := hS20.c2
                  have z3 := hS20.c3
                  have z4 := hS20.c4
                  have z5 := hS20.c5
                  clear hS20
                  have HB20 := hid hb20
                  clear hb20 HH14 HE14 lnf lnt lky hvr
                  go_upto_if 330 with fail
                  have e66 : ((⟨pre.toArray⟩ : ByteArray) ++ ⟨sy.toArray⟩).toList = pre ++ sy := by rw [cat2]; simp [go_sem]
                  rw [e66]
                  clear e66
                  have e67 : (!(pre ++ sy == pre ++ sy)) = false := by simp
                  rw [e67]
                  clear e67
                  go_upto_if 376 with (go_at_call 15; refine (equal15_any _ _ w6.heap.size w7.heap.size C (fun i => ((Cx i % n : Nat) : Int)) _ (by omega) (vec_grow (vec_grow HV7.out HB79.out) HB20.out) (vec_grow (vec_grow HV8.out HB89.out) HB20.out)).mono ?_; rintro e w21 ⟨rfl, q, hq⟩; have hb21 := below_drewN HB20.out q; rw [← hq] at hb21; clear hq)
                  have HB21 := hid hb21
                  have y0 := (HHist.out.grow hb21).head
                  clear hb21 z0 z1 z2 z3 z4 z5
                  go_upto_block 15 with fail
                  go_wp2_with fail
                  go_loopw [47] (fun i wr => ∃ k : Nat, k ≤ n ∧ i = .int .i64 k ∧ Below w9.heap.size w9 wr) (fun i _ => n - (intOf i).toNat)
                  case atStart => exact ⟨0, Nat.zero_le _, rfl, HB21.out⟩
                  case round =>
                    obtain ⟨k, hk, rfl, hb⟩ := hrel
                    clear y0
                    by_cases hkn : k < n
                    · have hH := HHist.out.grow hb
                      have y0 := hH.head
                      have y1 := hH.idx k hkn
                      have y2 := hH.opsl k hkn
                      have y3 := cell_grow (HINV.out.inv.bel.trans (below_le (HB49.out.trans (below_le hb HB49.out.size)) HINV.out.inv.bel.size)) (HI.out.cell k hkn)
                      have hle := hH.om_le k hkn
                      obtain ⟨j0, hj0, _⟩ := HRD.out k hkn
                      have hrow := HCP.out.row.cell (i := k) hkn
                      rw [if_pos hkn] at hrow
                      have hvc := HCP.out.vec k hkn
                      obtain ⟨a2, c2', he2, hp2⟩ := vec_slice hvc
                      obtain ⟨g2, rfl⟩ := hp2 (by omega)
                      rw [he2] at hrow hvc
                      have y4 := cell_grow (HB59.out.trans (below_le hb HB59.out.size)) hrow
                      have hva := HINV.out.inv.vec k hkn
                      rw [v_shape HINV.out.inv HRD.out k hkn] at hva
                      have HQ1 : Hid (∀ j, j < cnt k * 4 → wr.cell? ⟨obOf V k, j, none⟩ = some (opF (F k) j)) := fun j hj => cell_grow (HB49.out.trans (below_le hb HB49.out.size)) (hva.cell hj)
                      have HQ2 : Hid (∀ j, j < cnt k * 4 → wr.cell? ⟨g2, j, none⟩ = some (opF (F k) j)) := fun j hj => cell_grow (HB59.out.trans (below_le hb HB59.out.size)) (hvc.cell hj)
                      have HB := hid hb
                      clear hH hb hrow hvc hva he2 hp2 hj0
                      go_wp2
                      go_quiet ((go_at_call 16; refine Calls.quiet_of (equalOp_any _ _ _ _ _ (F k) _ hle (fun j hj => HQ1.out j hj) (fun j hj => HQ2.out j hj))))
                      go_wp2
                      go_roundw
                      case rel => exact ⟨k + 1, by omega, by go_num, below_drewN HB.out _⟩
                      case measure => simp [intOf]; omega
                    · obtain rfl : k = n := by omega
                      go_wp2
                      go_ret
                      exact ⟨rfl, HBw9.out.trans (below_le hb HBw9.out.size)⟩

set_option maxRecDepth 100000 in
theorem walkC_long (at0 : Option Addr) (L c0 : Nat) (at1 : Option Addr) (M c1 : Nat) (rule fr tt so : Nat) (ns : Bool) (at2 : Option Addr) (C c2 : Nat) (key : Int) (pre : List UInt8) (w : World) (hlen : 65536 < L + M + C + pre.length) (hs : L + M + C + pre.length ≤ 9223372036854775807) :
    Calls Ybad.prog 3 #[.slice at0 L c0, .slice at1 M c1, .int .u8 (rule : Int), .int .u32 (fr : Int), .int .u32 (tt : Int), .int .u32 (so : Int), .bool ns, .slice at2 C c2, .int .i64 key, .string ⟨pre.toArray⟩] w fun e w' => e = .returned (.bool true) ∧ Below w.heap.size w w' := by
  have hd1 : decide ((65536 : Int) < (L : Int) + (M : Int) + (C : Int) + (pre.length : Int)) = true := decide_eq_true (by omega)
  go_enter Ybad.func3, Ybad.ntmps3
  go_wp2
  go_ret
  exact ⟨rfl, Below.refl _ _⟩
end Go.Proofs.YbulkgahmDoor
