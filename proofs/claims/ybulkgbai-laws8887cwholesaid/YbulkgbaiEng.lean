import Derived.Test.YbulkgbaiIx
import Derived.Test.YbulkgbaiProg
import Derived.Maps.OwnSet
import Derived.DeepKeys4
import Derived.BigRegion
import Derived.LoopN
import Derived.Deep.CutRange
import Derived.Deep.DeepCutAuto
import Derived.Deep.CutBlock
import Derived.WalkSmall
namespace Go.Proofs.Ybulkgbai
open Go.RowKit Go.Zz Go.Maps

theorem wp_gen {P : Program} {c : Code} {Q : Exit → Act → World → Prop} {a : Act} {w : World} (h : ∀ w', w' = w → Code.wp P c Q a w') : Code.wp P c Q a w := h w rfl

theorem vec_ne {w : World} {B : Nat} {e T : TypeId} {size : Nat} {v : Value} {n : Nat} {f g : Nat → Value} {b m : Nat} (hv : Vec w B e size v n f) (hr : w.rowIs b T m g) (hTe : T ≠ e) : v.ownBlock ≠ some b := by
  rcases hv.2 with ⟨h1, _⟩ | ⟨c, cap, cur, h1, h2, h3, _⟩
  · rw [h1]; simp [Value.ownBlock]
  · intro hb
    rw [h1] at hb
    simp only [Value.ownBlock, Option.some.injEq] at hb
    subst hb
    obtain ⟨cs, hc, _⟩ := hr
    rw [h3] at hc
    simp only [Option.some.injEq, Obj.cells.injEq] at hc
    exact hTe hc.2.1.symm

theorem vec_set {w : World} {B : Nat} {e : TypeId} {size : Nat} {v : Value} {n : Nat} {f : Nat → Value} (h : Vec w B e size v n f) {a : Addr} (hne : v.ownBlock ≠ some a.block) (u : Value) : Vec (w.setCell a u) B e size v n f := by
  rcases h.shape with ⟨rfl, rfl⟩ | ⟨c, cap, rfl, _⟩
  · exact Vec.nil _ _ _ _ _
  · exact h.setOther (fun e => hne (by rw [← e]; rfl)) _

theorem vec_tag {w : World} {B b kb m n size c : Nat} {t t' : TypeId} {f g : Nat → Value} (hv : Vec w B t size (.slice (some ⟨b, 0, none⟩) n c) n f) (hr : w.rowIs kb t' m g) (h : t' ≠ t) : b ≠ kb := by
  intro e
  exact vec_ne hv hr h (by rw [e]; rfl)

theorem vec_vec_ne {w : World} {B B' n n' size size' : Nat} {t t' : TypeId} {v v' : Value} {f f' : Nat → Value} (hv : Vec w B t size v n f) (hv' : Vec w B' t' size' v' n' f') (h : t ≠ t') (b : Nat) (hb : v.ownBlock = some b) : v'.ownBlock ≠ some b := by
  intro hb'
  rcases hv.2 with ⟨h1, _⟩ | ⟨c, cap, cur, h1, h2, h3, _⟩
  · rw [h1] at hb; simp [Value.ownBlock] at hb
  rcases hv'.2 with ⟨h1', _⟩ | ⟨c', cap', cur', h1', h2', h3', _⟩
  · rw [h1'] at hb'; simp [Value.ownBlock] at hb'
  rw [h1] at hb
  rw [h1'] at hb'
  simp only [Value.ownBlock, Option.some.injEq] at hb hb'
  rw [hb] at h3
  rw [hb', h3] at h3'
  simp only [Option.some.injEq, Obj.cells.injEq] at h3'
  exact h h3'.2.1

theorem ix_ne {w : World} {P : Program} {k : TypeId} {b mb m n : Nat} {t : TypeId} {K V f : Nat → Value} {M : Nat → Bool} (hM : IX w P k mb m K V M) (hr : w.rowIs b t n f) : mb ≠ b := by
  intro h
  obtain ⟨es, clock, hb⟩ := hM.isMap
  obtain ⟨c, hc, _⟩ := hr
  rw [h, hc] at hb
  cases hb

theorem ix_vec {w : World} {P : Program} {k : TypeId} {B mb m n size : Nat} {t : TypeId} {v : Value} {K V f : Nat → Value} {M : Nat → Bool} (hM : IX w P k mb m K V M) (hv : Vec w B t size v n f) : v.ownBlock ≠ some mb := by
  rcases hv.2 with ⟨h1, _⟩ | ⟨c, cap, cur, h1, h2, h3, _⟩
  · rw [h1]; simp [Value.ownBlock]
  · intro hb
    rw [h1] at hb
    simp only [Value.ownBlock, Option.some.injEq] at hb
    subst hb
    obtain ⟨es, clock, hb⟩ := hM.isMap
    rw [h3] at hb
    cases hb

theorem info3 : (Yba.prog.info? 3).map (fun i => (i.zero, i.size, i.bytes)) = some (some (.int .i64 0), 1, 8) := by kernel_rfl
theorem info37 : (Yba.prog.info? 37).map (fun i => (i.zero, i.size, i.bytes)) = some (some (.int .u64 0), 1, 8) := by kernel_rfl

/-- what the engine's cells hold -/
structure EV where
  self : Int
  life : Int
  outv : Value
  outg : Value
  inc : Nat
  rm : Nat
  bits : Value
  free : Value
  words : Nat
  slots : Value
  op : Nat
  ac : Nat
  ar : Nat
  wl : Bool
  dl : Bool
  seq : Nat
  links : Int
  ent : Int

def engF (e : EV) : Nat → Value
  | 0 => .int .u32 e.self
  | 1 => .int .u32 e.life
  | 2 => e.outv
  | 3 => e.outg
  | 4 => .map (some e.inc)
  | 5 => .map (some e.rm)
  | 6 => e.bits
  | 7 => e.free
  | 8 => .int .i64 (e.words : Int)
  | 9 => e.slots
  | 10 => .map (some e.op)
  | 11 => .map (some e.ac)
  | 12 => .map (some e.ar)
  | 13 => .bool e.wl
  | 14 => .bool e.dl
  | 15 => .int .u64 (e.seq : Int)
  | 16 => .int .u64 e.links
  | _ => .int .i64 e.ent

def E (w : World) (eb : Nat) (e : EV) : Prop := w.rowIs eb 55 18 (engF e)

theorem E.free {w : World} {eb : Nat} {e : EV} (h : E w eb e) (v : Value) : E (w.setCell ⟨eb, 7, none⟩ v) eb { e with free := v } :=
  (World.rowIs.set h 7 v).congr fun i hi => by rcases i with _ | _ | _ | _ | _ | _ | _ | _ | _ | _ | _ | _ | _ | _ | _ | _ | _ | _ | i <;> first | rfl | omega
theorem E.ent {w : World} {eb : Nat} {e : EV} (h : E w eb e) (n : Int) : E (w.setCell ⟨eb, 17, none⟩ (.int .i64 n)) eb { e with ent := n } :=
  (World.rowIs.set h 17 _).congr fun i hi => by rcases i with _ | _ | _ | _ | _ | _ | _ | _ | _ | _ | _ | _ | _ | _ | _ | _ | _ | _ | i <;> first | rfl | omega

theorem E.c3 {w : World} {eb : Nat} {e : EV} (h : E w eb e) : w.cell? ⟨eb, 3, none⟩ = some e.outg := World.rowIs.cell h (by omega)
theorem E.c4 {w : World} {eb : Nat} {e : EV} (h : E w eb e) : w.cell? ⟨eb, 4, none⟩ = some (.map (some e.inc)) := World.rowIs.cell h (by omega)
theorem E.c5 {w : World} {eb : Nat} {e : EV} (h : E w eb e) : w.cell? ⟨eb, 5, none⟩ = some (.map (some e.rm)) := World.rowIs.cell h (by omega)
theorem E.c6 {w : World} {eb : Nat} {e : EV} (h : E w eb e) : w.cell? ⟨eb, 6, none⟩ = some e.bits := World.rowIs.cell h (by omega)
theorem E.c7 {w : World} {eb : Nat} {e : EV} (h : E w eb e) : w.cell? ⟨eb, 7, none⟩ = some e.free := World.rowIs.cell h (by omega)
theorem E.c8 {w : World} {eb : Nat} {e : EV} (h : E w eb e) : w.cell? ⟨eb, 8, none⟩ = some (.int .i64 (e.words : Int)) := World.rowIs.cell h (by omega)
theorem E.c9 {w : World} {eb : Nat} {e : EV} (h : E w eb e) : w.cell? ⟨eb, 9, none⟩ = some e.slots := World.rowIs.cell h (by omega)
theorem E.c0 {w : World} {eb : Nat} {e : EV} (h : E w eb e) : w.cell? ⟨eb, 0, none⟩ = some (.int .u32 e.self) := World.rowIs.cell h (by omega)
theorem E.c2 {w : World} {eb : Nat} {e : EV} (h : E w eb e) : w.cell? ⟨eb, 2, none⟩ = some e.outv := World.rowIs.cell h (by omega)
theorem E.c10 {w : World} {eb : Nat} {e : EV} (h : E w eb e) : w.cell? ⟨eb, 10, none⟩ = some (.map (some e.op)) := World.rowIs.cell h (by omega)
theorem E.c11 {w : World} {eb : Nat} {e : EV} (h : E w eb e) : w.cell? ⟨eb, 11, none⟩ = some (.map (some e.ac)) := World.rowIs.cell h (by omega)
theorem E.c12 {w : World} {eb : Nat} {e : EV} (h : E w eb e) : w.cell? ⟨eb, 12, none⟩ = some (.map (some e.ar)) := World.rowIs.cell h (by omega)
theorem E.c17 {w : World} {eb : Nat} {e : EV} (h : E w eb e) : w.cell? ⟨eb, 17, none⟩ = some (.int .i64 e.ent) := World.rowIs.cell h (by omega)
theorem E.alloc {w : World} {eb : Nat} {e : EV} (h : E w eb e) (o : Obj) : E (w.alloc o) eb e := World.rowIs.alloc h o
theorem E.fz {w : World} {eb : Nat} {e : EV} (h : E w eb e) (i : Nat) : w.frozen? ⟨eb, i, none⟩ = false := World.rowIs.frozen h i

/-- (*copies).row -/
theorem row_any (eb : Nat) (e : EV) (w : World) (bb len cap W r r1 lo hi : Nat) (hE : E w eb e) (hbits : e.bits = .slice (some ⟨bb, 0, none⟩) len cap) (hW : e.words = W)
    (h1 : r + 1 = r1) (h2 : r * W = lo) (h3 : r1 * W = hi) (hW0 : 0 < W) (hcap : hi ≤ cap) (hb : hi ≤ 1048576) (hr : r ≤ 1048576) :
    Calls Yba.prog 40 #[.pointer (some ⟨eb, 5, none⟩), .int .i64 (r : Int)] w fun x w' => x = .returned (.slice (some ⟨bb, lo, none⟩) (hi - lo) (cap - lo)) ∧ ∃ q, w' = w.drewN q := by
  have c6 := hE.c6
  have c8 := hE.c8
  rw [hbits] at c6
  rw [hW] at c8
  have hlh : lo < hi := by rw [← h2, ← h3, ← h1, Nat.succ_mul]; omega
  have hlc : lo < cap := by omega
  have q0 : IntKind.i64.wrap ((r : Int) + 1) = (r1 : Int) := by rw [IntKind.wrap_i64]; omega
  have q1 : IntKind.i64.wrap ((r : Int) * (W : Int)) = (lo : Int) := by rw [← Int.natCast_mul, h2, IntKind.wrap_i64]; omega
  have q2 : IntKind.i64.wrap ((r1 : Int) * (W : Int)) = (hi : Int) := by rw [← Int.natCast_mul, h3, IntKind.wrap_i64]; omega
  clear h1 h2 h3 hE hbits hW
  go_enter Yba.func40, Yba.ntmps40
  go_wp2
  go_quiet (fail)
  go_wp2
  go_ret
  exact ⟨rfl, _, rfl⟩

theorem laidOut : laidOutB Yba.prog = true := by kernel_rfl

/-- a message's key, as the map holds it -/
def kv (o s : Nat) : Value := .agg #[.int .u64 (o : Int), .int .u64 (s : Int)]
/-- a link's key -/
def lv (o s : Nat) : Value := .agg #[.int .u32 (o : Int), .int .u64 (s : Int)]
def iv (n : Nat) : Value := .int .i64 (n : Int)
def idv (n : Nat) : Value := .int .u32 (n : Int)

theorem klaw59 : WideMaps.KeyLaw Yba.prog 59 := deep_law_laid laidOut (m := 3) (by decide) (of_decide_eq_true (by kernel_rfl)) (by kernel_rfl) (by kernel_rfl)
theorem klaw65 : WideMaps.KeyLaw Yba.prog 65 := deep_law_laid laidOut (m := 3) (by decide) (of_decide_eq_true (by kernel_rfl)) (by kernel_rfl) (by kernel_rfl)
theorem k59 : Keyed Yba.prog 59 := Keyed.of_law klaw59
theorem k65 : Keyed Yba.prog 65 := Keyed.of_law klaw65
theorem k42 : Keyed Yba.prog 42 := int_keyed Yba.underlying42
theorem cells59 : Yba.prog.cellsOf 59 = 2 := by kernel_rfl
theorem cells65 : Yba.prog.cellsOf 65 = 2 := by kernel_rfl
theorem cells37 : Yba.prog.cellsOf 37 = 1 := by kernel_rfl
theorem cells42 : Yba.prog.cellsOf 42 = 1 := by kernel_rfl
theorem keyType59 : Yba.prog.keyType 59 = true := by kernel_rfl
theorem keyType65 : Yba.prog.keyType 65 = true := by kernel_rfl

theorem u64_wf (n : Nat) (h : n < 18446744073709551616) : (Lit.int .u64 (n : Int)).wf = true := by
  simp only [Lit.wf, Bool.and_eq_true, decide_eq_true_eq]
  exact ⟨show (0 : Int) ≤ n by omega, show (n : Int) ≤ 18446744073709551615 by omega⟩

theorem u32_wf (n : Nat) (h : n < 4294967296) : (Lit.int .u32 (n : Int)).wf = true := by
  simp only [Lit.wf, Bool.and_eq_true, decide_eq_true_eq]
  exact ⟨show (0 : Int) ≤ n by omega, show (n : Int) ≤ 4294967295 by omega⟩

theorem lits37 (d n : Nat) (h : n < 18446744073709551616) : Yba.prog.keyLits (d + 1) 37 [.int .u64 (n : Int)] = some [.int .u64 (n : Int)] := by
  unfold Program.keyLits
  simp [Yba.underlying37, u64_wf n h]

theorem lits42 (d n : Nat) (h : n < 4294967296) : Yba.prog.keyLits (d + 1) 42 [.int .u32 (n : Int)] = some [.int .u32 (n : Int)] := by
  unfold Program.keyLits
  simp [Yba.underlying42, u32_wf n h]

theorem lits59 (d o s : Nat) (ho : o < 18446744073709551616) (hs : s < 18446744073709551616) : Yba.prog.keyLits (d + 2) 59 [.int .u64 (o : Int), .int .u64 (s : Int)] = some [.int .u64 (o : Int), .int .u64 (s : Int)] := by
  rw [show d + 2 = (d + 1) + 1 from rfl]
  unfold Program.keyLits
  simp [Yba.underlying59, cells59, cells37, lits37 d o ho, lits37 d s hs]

theorem lits65 (d o s : Nat) (ho : o < 4294967296) (hs : s < 18446744073709551616) : Yba.prog.keyLits (d + 2) 65 [.int .u32 (o : Int), .int .u64 (s : Int)] = some [.int .u32 (o : Int), .int .u64 (s : Int)] := by
  rw [show d + 2 = (d + 1) + 1 from rfl]
  unfold Program.keyLits
  simp [Yba.underlying65, cells65, cells42, cells37, lits42 d o ho, lits37 d s hs]

theorem tsize : ∃ d, Yba.prog.types.size + 1 = d + 2 := ⟨Yba.prog.types.size - 1, by kernel_rfl⟩

theorem kv_key (o s : Nat) (ho : o < 18446744073709551616) (hs : s < 18446744073709551616) : ∃ kl, keyOf Yba.prog 59 (kv o s) = some kl := by
  have h1 : (kv o s).formed Yba.prog 59 = true := by simp [kv, Value.formed, Yba.underlying59, cells59]
  have h2 : Yba.prog.keyLits (Yba.prog.types.size + 1) 59 (kv o s).cells.toList = some [.int .u64 (o : Int), .int .u64 (s : Int)] := by
    obtain ⟨d, hd⟩ := tsize
    rw [hd]
    exact lits59 d o s ho hs
  refine ⟨.string (keyBytes [.int .u64 (o : Int), .int .u64 (s : Int)]), ?_⟩
  unfold keyOf
  rw [Yba.underlying59]
  show (if (Yba.prog.keyType 59 && (kv o s).formed Yba.prog 59) = true then (Yba.prog.keyLits (Yba.prog.types.size + 1) 59 (kv o s).cells.toList).map fun ls => Lit.string (keyBytes ls) else none) = _
  rw [keyType59, h1, h2]
  rfl

theorem lv_key (o s : Nat) (ho : o < 4294967296) (hs : s < 18446744073709551616) : ∃ kl, keyOf Yba.prog 65 (lv o s) = some kl := by
  have h1 : (lv o s).formed Yba.prog 65 = true := by simp [lv, Value.formed, Yba.underlying65, cells65]
  have h2 : Yba.prog.keyLits (Yba.prog.types.size + 1) 65 (lv o s).cells.toList = some [.int .u32 (o : Int), .int .u64 (s : Int)] := by
    obtain ⟨d, hd⟩ := tsize
    rw [hd]
    exact lits65 d o s ho hs
  refine ⟨.string (keyBytes [.int .u32 (o : Int), .int .u64 (s : Int)]), ?_⟩
  unfold keyOf
  rw [Yba.underlying65]
  show (if (Yba.prog.keyType 65 && (lv o s).formed Yba.prog 65) = true then (Yba.prog.keyLits (Yba.prog.types.size + 1) 65 (lv o s).cells.toList).map fun ls => Lit.string (keyBytes ls) else none) = _
  rw [keyType65, h1, h2]
  rfl

theorem idv_key (n : Nat) (h : n < 4294967296) : ∃ kl, keyOf Yba.prog 42 (idv n) = some kl := ⟨_, keyOf_int_mk Yba.underlying42 (u32_wf n h)⟩

theorem kv_inj {o s o' s' : Nat} (h : kv o s = kv o' s') : o = o' ∧ s = s' := by
  simp [kv] at h
  omega
theorem lv_inj {o s o' s' : Nat} (h : lv o s = lv o' s') : o = o' ∧ s = s' := by
  simp [lv] at h
  omega
theorem idv_inj {n n' : Nat} (h : idv n = idv n') : n = n' := by
  simp [idv] at h
  omega

theorem zero3 (w : World) : (zeroValue 3).run Yba.prog w = .ok (.int .i64 0) w := by kernel_rfl
theorem zero67 (w : World) : (zeroValue 67).run Yba.prog w = .ok (.pointer none) w := by kernel_rfl
theorem zero76 (w : World) : (zeroValue 76).run Yba.prog w = .ok (.agg #[.int .i64 0, .int .u64 0]) w := by kernel_rfl

/-- bitOf at a small slot -/
theorem bitOf_small (s : Nat) (w : World) (hs : s < 6) : Calls Yba.prog 39 #[.int .i64 (s : Int)] w fun x w' => x = .returned (.tuple #[.int .i64 0, .int .u64 ((2 ^ s : Nat) : Int)]) ∧ ∃ q, w' = w.drewN q := by
  rcases (show s = 0 ∨ s = 1 ∨ s = 2 ∨ s = 3 ∨ s = 4 ∨ s = 5 by omega) with rfl | rfl | rfl | rfl | rfl | rfl
  all_goals
    go_enter Yba.func39, Yba.ntmps39
    go_wp2
    go_quiet (fail)
    go_wp2
    exact bodyPost_ret (v := .tuple #[.int .i64 0, .int .u64 _]) (by simp [results, Yba.results39, go_sem]) rfl ⟨rfl, _, rfl⟩

/-- (*accepting).buffered -/
theorem buffered_any (pb la lb ca cb : Nat) (aa ab : Option Addr) (w : World) (h2 : w.cell? ⟨pb, 2, none⟩ = some (.slice aa la ca)) (h3 : w.cell? ⟨pb, 3, none⟩ = some (.slice ab lb cb)) (hla : la < 4) (hlb : lb < 4) :
    Calls Yba.prog 29 #[.pointer (some ⟨pb, 0, none⟩)] w fun x w' => x = .returned (.int .i64 ((la + lb : Nat) : Int)) ∧ ∃ q, w' = w.drewN q := by
  have q0 : IntKind.i64.wrap ((la : Int) + (lb : Int)) = ((la + lb : Nat) : Int) := by rw [IntKind.wrap_i64]; omega
  go_enter Yba.func29, Yba.ntmps29
  go_wp2
  go_quiet (fail)
  go_wp2
  go_ret
  exact ⟨rfl, _, rfl⟩

end Go.Proofs.Ybulkgbai
