import Derived.Test.YbulkgbaiDoorBits
import Derived.Test.YbulkgbaiDoorZeros
import Derived.Maps.OwnSet
namespace Go.Proofs.YbulkgbaiDoor
open Go.RowKit Go.Zz Go.Maps

/-- what the engine's cells hold -/
structure EV where
  self : Int
  life : Int
  outv : Value
  outg : Value
  inc : Nat
  rm : Nat
  bits : Value
  free : Value
  words : Nat
  slots : Value
  op : Nat
  ac : Nat
  ar : Nat
  wl : Bool
  dl : Bool
  seq : Nat
  links : Int
  ent : Nat

def engF (e : EV) : Nat → Value
  | 0 => .int .u32 e.self
  | 1 => .int .u32 e.life
  | 2 => e.outv
  | 3 => e.outg
  | 4 => .map (some e.inc)
  | 5 => .map (some e.rm)
  | 6 => e.bits
  | 7 => e.free
  | 8 => .int .i64 (e.words : Int)
  | 9 => e.slots
  | 10 => .map (some e.op)
  | 11 => .map (some e.ac)
  | 12 => .map (some e.ar)
  | 13 => .bool e.wl
  | 14 => .bool e.dl
  | 15 => .int .u64 (e.seq : Int)
  | 16 => .int .u64 e.links
  | _ => .int .i64 (e.ent : Int)

def E (w : World) (eb : Nat) (e : EV) : Prop := w.rowIs eb 59 18 (engF e)

theorem E.bits {w : World} {eb : Nat} {e : EV} (h : E w eb e) (v : Value) : E (w.setCell ⟨eb, 6, none⟩ v) eb { e with bits := v } :=
  (World.rowIs.set h 6 v).congr fun i hi => by rcases i with _ | _ | _ | _ | _ | _ | _ | _ | _ | _ | _ | _ | _ | _ | _ | _ | _ | _ | i <;> first | rfl | omega
theorem E.free {w : World} {eb : Nat} {e : EV} (h : E w eb e) (v : Value) : E (w.setCell ⟨eb, 7, none⟩ v) eb { e with free := v } :=
  (World.rowIs.set h 7 v).congr fun i hi => by rcases i with _ | _ | _ | _ | _ | _ | _ | _ | _ | _ | _ | _ | _ | _ | _ | _ | _ | _ | i <;> first | rfl | omega
theorem E.words {w : World} {eb : Nat} {e : EV} (h : E w eb e) (n : Nat) : E (w.setCell ⟨eb, 8, none⟩ (.int .i64 (n : Int))) eb { e with words := n } :=
  (World.rowIs.set h 8 _).congr fun i hi => by rcases i with _ | _ | _ | _ | _ | _ | _ | _ | _ | _ | _ | _ | _ | _ | _ | _ | _ | _ | i <;> first | rfl | omega
theorem E.slots {w : World} {eb : Nat} {e : EV} (h : E w eb e) (v : Value) : E (w.setCell ⟨eb, 9, none⟩ v) eb { e with slots := v } :=
  (World.rowIs.set h 9 v).congr fun i hi => by rcases i with _ | _ | _ | _ | _ | _ | _ | _ | _ | _ | _ | _ | _ | _ | _ | _ | _ | _ | i <;> first | rfl | omega
theorem E.outg {w : World} {eb : Nat} {e : EV} (h : E w eb e) (v : Value) : E (w.setCell ⟨eb, 3, none⟩ v) eb { e with outg := v } :=
  (World.rowIs.set h 3 v).congr fun i hi => by rcases i with _ | _ | _ | _ | _ | _ | _ | _ | _ | _ | _ | _ | _ | _ | _ | _ | _ | _ | i <;> first | rfl | omega
theorem E.dl {w : World} {eb : Nat} {e : EV} (h : E w eb e) (v : Bool) : E (w.setCell ⟨eb, 14, none⟩ (.bool v)) eb { e with dl := v } :=
  (World.rowIs.set h 14 _).congr fun i hi => by rcases i with _ | _ | _ | _ | _ | _ | _ | _ | _ | _ | _ | _ | _ | _ | _ | _ | _ | _ | i <;> first | rfl | omega
theorem E.seq {w : World} {eb : Nat} {e : EV} (h : E w eb e) (n : Nat) : E (w.setCell ⟨eb, 15, none⟩ (.int .u64 (n : Int))) eb { e with seq := n } :=
  (World.rowIs.set h 15 _).congr fun i hi => by rcases i with _ | _ | _ | _ | _ | _ | _ | _ | _ | _ | _ | _ | _ | _ | _ | _ | _ | _ | i <;> first | rfl | omega
theorem E.ent {w : World} {eb : Nat} {e : EV} (h : E w eb e) (n : Nat) : E (w.setCell ⟨eb, 17, none⟩ (.int .i64 (n : Int))) eb { e with ent := n } :=
  (World.rowIs.set h 17 _).congr fun i hi => by rcases i with _ | _ | _ | _ | _ | _ | _ | _ | _ | _ | _ | _ | _ | _ | _ | _ | _ | _ | i <;> first | rfl | omega

theorem E.c3 {w : World} {eb : Nat} {e : EV} (h : E w eb e) : w.cell? ⟨eb, 3, none⟩ = some e.outg := World.rowIs.cell h (by omega)
theorem E.c4 {w : World} {eb : Nat} {e : EV} (h : E w eb e) : w.cell? ⟨eb, 4, none⟩ = some (.map (some e.inc)) := World.rowIs.cell h (by omega)
theorem E.c5 {w : World} {eb : Nat} {e : EV} (h : E w eb e) : w.cell? ⟨eb, 5, none⟩ = some (.map (some e.rm)) := World.rowIs.cell h (by omega)
theorem E.c6 {w : World} {eb : Nat} {e : EV} (h : E w eb e) : w.cell? ⟨eb, 6, none⟩ = some e.bits := World.rowIs.cell h (by omega)
theorem E.c7 {w : World} {eb : Nat} {e : EV} (h : E w eb e) : w.cell? ⟨eb, 7, none⟩ = some e.free := World.rowIs.cell h (by omega)
theorem E.c8 {w : World} {eb : Nat} {e : EV} (h : E w eb e) : w.cell? ⟨eb, 8, none⟩ = some (.int .i64 (e.words : Int)) := World.rowIs.cell h (by omega)
theorem E.c9 {w : World} {eb : Nat} {e : EV} (h : E w eb e) : w.cell? ⟨eb, 9, none⟩ = some e.slots := World.rowIs.cell h (by omega)
theorem E.fz {w : World} {eb : Nat} {e : EV} (h : E w eb e) (i : Nat) : w.frozen? ⟨eb, i, none⟩ = false := World.rowIs.frozen h i

/-- (*copies).row -/
theorem row_any (eb : Nat) (e : EV) (w : World) (bb len cap W r r1 lo hi : Nat) (hE : E w eb e) (hbits : e.bits = .slice (some ⟨bb, 0, none⟩) len cap) (hW : e.words = W)
    (h1 : r + 1 = r1) (h2 : r * W = lo) (h3 : r1 * W = hi) (hW0 : 0 < W) (hcap : hi ≤ cap) (hb : hi ≤ 1048576) (hr : r ≤ 1048576) :
    Calls Ybad.prog 21 #[.pointer (some ⟨eb, 5, none⟩), .int .i64 (r : Int)] w fun x w' => x = .returned (.slice (some ⟨bb, lo, none⟩) (hi - lo) (cap - lo)) ∧ ∃ q, w' = w.drewN q := by
  have c6 := hE.c6
  have c8 := hE.c8
  rw [hbits] at c6
  rw [hW] at c8
  have hlh : lo < hi := by rw [← h2, ← h3, ← h1, Nat.succ_mul]; omega
  have hlc : lo < cap := by omega
  have q0 : IntKind.i64.wrap ((r : Int) + 1) = (r1 : Int) := by rw [IntKind.wrap_i64]; omega
  have q1 : IntKind.i64.wrap ((r : Int) * (W : Int)) = (lo : Int) := by rw [← Int.natCast_mul, h2, IntKind.wrap_i64]; omega
  have q2 : IntKind.i64.wrap ((r1 : Int) * (W : Int)) = (hi : Int) := by rw [← Int.natCast_mul, h3, IntKind.wrap_i64]; omega
  clear h1 h2 h3 hE hbits hW
  go_enter Ybad.func21, Ybad.ntmps21
  go_wp2
  go_quiet (fail)
  go_wp2
  go_ret
  exact ⟨rfl, _, rfl⟩
end Go.Proofs.YbulkgbaiDoor
