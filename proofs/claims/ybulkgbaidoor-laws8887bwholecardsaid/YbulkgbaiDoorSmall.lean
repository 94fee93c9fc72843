import Derived.Test.YbulkgbaiDoorHolds
import Derived.Lib.Builder
namespace Go.Proofs.YbulkgbaiDoor
open Go.RowKit Go.Zz Go.Maps

theorem hold_any (eb B o k j : Nat) (e : EV) (w : World) (h : Cs w B eb e o k j) (hk : k ≤ 300) (hj : j ≤ 60) (ho : o < 18446744073709551616) (hBw : B ≤ w.heap.size) :
    Calls Ybad.prog 17 #[.pointer (some ⟨eb, 5, none⟩), kv o (j + 1), .int .i64 (-1)] w fun x w' => x = .returned (.int .i64 (k : Int)) ∧ After w w' B eb e o k j := by
  by_cases hk0 : k = 0
  · subst hk0
    exact hold_zero eb B o j e w h hj ho hBw
  · exact hold_pos eb B o k j e w h (by omega) hk hj ho hBw

set_option maxRecDepth 100000 in
/-- zzs8887bsame of a slice and itself -/
theorem same_any (at0 : Option Addr) (L c b off : Nat) (h : 0 < L → at0 = some ⟨b, off, none⟩) (w : World) :
    Calls Ybad.prog 12 #[.slice at0 L c, .slice at0 L c] w fun x w' => x = .returned (.bool true) ∧ ∃ q, w' = w.drewN q := by
  have hnil : ∀ (w : World) (a : Option Addr) (n c : Nat), (binOp .eql 24 (.slice a n c) (.slice none 0 0)).run Ybad.prog w = .ok (.bool a.isNone) w := fun w a n c => Lib.run_eql_slice_nil w 24 5 a n c 0 0 Ybad.underlying24
  by_cases hL : L = 0
  · subst hL
    cases at0 with
    | none =>
      go_enter Ybad.func12, Ybad.ntmps12
      go_wp2
      go_quiet (fail)
      go_wp2
      go_ret
      exact ⟨rfl, _, rfl⟩
    | some a =>
      go_enter Ybad.func12, Ybad.ntmps12
      go_wp2
      go_quiet (fail)
      go_wp2
      go_ret
      exact ⟨rfl, _, rfl⟩
  · obtain rfl := h (by omega)
    have hd : decide (0 < (L : Int)) = true := decide_eq_true (by omega)
    have h0 : 0 < L := by omega
    obtain ⟨i5, hi5⟩ : ∃ i, Ybad.prog.info? 5 = some i := by
      have : (Ybad.prog.info? 5).isSome = true := by kernel_rfl
      exact Option.isSome_iff_exists.1 this
    have hneq : ∀ (w : World) (a : Addr), (binOp .neq 76 (.pointer (some a)) (.pointer (some a))).run Ybad.prog w = .ok (.bool false) w := fun w a => Lib.run_neq_ptr_same (w := w) a Ybad.underlying76 hi5
    clear hi5
    go_enter Ybad.func12, Ybad.ntmps12
    go_wp2
    go_quiet (fail)
    go_wp2
    go_ret
    exact ⟨rfl, _, rfl⟩

/-- the message's value -/
def mv (self life seq : Nat) (p : Value) : Value := .agg #[.int .u32 (self : Int), .int .u32 (life : Int), .int .u64 (seq : Int), p]

theorem msg_any (self life seq : Nat) (at0 : Option Addr) (L c b off : Nat) (h : 0 < L → at0 = some ⟨b, off, none⟩) (w : World) :
    Calls Ybad.prog 6 #[mv self life seq (.slice at0 L c), .int .u32 (self : Int), .int .u32 (life : Int), .int .u64 (seq : Int), .slice at0 L c] w fun x w' => x = .returned (.bool true) ∧ Below w.heap.size w w' := by
  unfold mv
  have HS := hid (fun w => same_any at0 L c b off h w)
  go_enter Ybad.func6, Ybad.ntmps6
  go_wp2_with (go_at_call 12; refine (HS.out _).mono ?_; rintro x w1 ⟨rfl, q, rfl⟩)
  go_ret
  exact ⟨rfl, below_drewN ((Below.refl _ _).alloc (Nat.le_refl _) _) _⟩

/-- the number that the key's first field holds -/
def ko (self life : Nat) : Nat := (life * 4294967296) ||| self

theorem ko_lt (self life : Nat) (hs : self < 4294967296) (hl : life < 4294967296) : ko self life < 18446744073709551616 := Nat.or_lt_two_pow (n := 64) (by omega) (by omega)

theorem keyOf_any (self life seq : Nat) (p : Value) (w : World) (hs : self < 4294967296) (hl : life < 4294967296) :
    Calls Ybad.prog 18 #[mv self life seq p] w fun x w' => x = .returned (kv (ko self life) seq) ∧ Below w.heap.size w w' := by
  unfold mv
  have hor : bits .or .u64 ((life : Int) * 4294967296) (self : Int) = ((ko self life : Nat) : Int) := by
    have := bits_or_u64_nat (life * 4294967296) self (by omega) (by omega)
    rw [Int.natCast_mul] at this
    exact this
  go_enter Ybad.func18, Ybad.ntmps18
  go_wp2
  refine bodyPost_ret (v := kv (ko self life) seq) (by simp [results, Ybad.results18, go_sem, kv]) rfl ⟨rfl, ((Below.refl _ _).alloc (Nat.le_refl _) _).alloc (by simp) _⟩

/-- (*Engine).Memory -/
theorem memory_any (eb : Nat) (e : EV) (w : World) (hE : E w eb e) : Calls Ybad.prog 7 #[.pointer (some ⟨eb, 0, none⟩)] w fun x w' => x = .returned (.int .i64 (e.ent : Int)) ∧ w' = w := by
  have c : w.cell? ⟨eb, 17, none⟩ = some (.int .i64 (e.ent : Int)) := World.rowIs.cell hE (by omega)
  go_enter Ybad.func7, Ybad.ntmps7
  go_wp2
  go_ret
  exact ⟨rfl, rfl⟩

/-- (*Engine).Reset, once something has been delivered -/
theorem reset_any (eb : Nat) (e : EV) (w : World) (hE : E w eb e) (hd : e.dl = true) : Calls Ybad.prog 8 #[.pointer (some ⟨eb, 0, none⟩)] w fun x w' => (∃ t v, x = .returned (.iface t v)) ∧ Below w.heap.size w w' := by
  have c : w.cell? ⟨eb, 14, none⟩ = some (.bool true) := by
    have : w.cell? ⟨eb, 14, none⟩ = some (.bool e.dl) := World.rowIs.cell hE (by omega)
    rw [this, hd]
  go_enter Ybad.func8, Ybad.ntmps8
  go_wp2
  go_ret
  exact ⟨⟨77, _, rfl⟩, (Below.refl _ _).alloc (Nat.le_refl _) _⟩
end Go.Proofs.YbulkgbaiDoor
