import Derived.Test.YbulkgbaiDoorNew
namespace Go.Proofs.YbulkgbaiDoor
open Go.RowKit Go.Zz Go.Maps

theorem info25 : (Ybad.prog.info? 25).map (fun i => (i.zero, i.size, i.bytes)) = some (some (.int .u32 0), 1, 4) := by kernel_rfl
theorem size5 : (Ybad.prog.info? 5).map (·.size) = some 1 := by kernel_rfl
theorem below_le {B : Nat} {w w' : World} (h : Below w.heap.size w w') (hB : B ≤ w.heap.size) : Below B w w' := h.mono hB
theorem below_alloc (w : World) (o : Obj) : Below w.heap.size w (w.alloc o) := (Below.refl _ _).alloc (Nat.le_refl _) _
theorem cell_grow {w w' : World} (hb : Below w.heap.size w w') {a : Addr} {v : Value} (hc : w.cell? a = some v) : w'.cell? a = some v := (hb.cell (World.block_lt_of_cell? w a hc)).trans hc
theorem vec_grow {w w' : World} {B : Nat} {e : TypeId} {size : Nat} {v : Value} {n : Nat} {f : Nat → Value} (h : Vec w B e size v n f) (hb : Below w.heap.size w w') : Vec w' B e size v n f := (Kept.of_below (S := []) hb).vec h (by simp)
theorem info5 : (Ybad.prog.info? 5).map (fun i => (i.zero, i.size, i.bytes)) = some (some (.int .u8 0), 1, 1) := by kernel_rfl

theorem vec_slice {w : World} {B : Nat} {e : TypeId} {size : Nat} {v : Value} {n : Nat} {f : Nat → Value} (h : Vec w B e size v n f) : ∃ ao cp, v = .slice ao n cp ∧ (0 < n → ∃ g, ao = some ⟨g, 0, none⟩) := by
  rcases h.shape with ⟨rfl, rfl⟩ | ⟨b, cap, rfl, _⟩
  · exact ⟨none, 0, rfl, fun h => by omega⟩
  · exact ⟨_, _, rfl, fun _ => ⟨b, rfl⟩⟩

/-- engine and log between two rounds of the law's loop -/
def LI (wr : World) (B eb ob o self life ni no q : Nat) (D : Nat → Nat) : Prop :=
  ∃ e logv lf, Cs wr B eb e o ni q ∧ (e.self = self ∧ e.life = life ∧ e.outv = .iface 27 (.pointer (some ⟨ob, 0, none⟩))) ∧ Vec wr B 61 2 e.outg no (olF D) ∧ MapE wr e.op ∧ MapE wr e.ac ∧ e.op ≠ e.rm ∧ e.ac ≠ e.rm ∧
    (0 < q → e.dl = true) ∧ e.seq = q ∧ e.ent = q * ni ∧ wr.rowIs ob 30 1 (fun _ => logv) ∧ Vec wr B 39 6 logv (q * (no + 1)) lf

theorem LI.grow {wr w' : World} {B eb ob o self life ni no q : Nat} {D : Nat → Nat} (h : LI wr B eb ob o self life ni no q D) (hb : Below wr.heap.size wr w') : LI w' B eb ob o self life ni no q D := by
  obtain ⟨e, logv, lf, h1, h2, h3, h4, h5, h6, h7, h8, h9, h10, h11, h12⟩ := h
  have hk : Kept [] wr w' := Kept.of_below hb
  exact ⟨e, logv, lf, h1.kept hk (by simp), h2, vec_grow h3 hb, h4.below hb, h5.below hb, h6, h7, h8, h9, h10, hk.row h11 (by simp), vec_grow h12 hb⟩

theorem fS_old (n : Nat) (lf : Nat → Value) (D : Nat → Nat) (self life s : Nat) (p : Value) : ∀ t q, q < n * 6 → fS n lf D self life s p t q = lf q
  | 0, _, _ => rfl
  | t + 1, q, h => by
    show logA (n + t) _ _ q = lf q
    rw [logA_old q (by omega)]
    exact fS_old n lf D self life s p t q h

theorem fS_at (n : Nat) (lf : Nat → Value) (D : Nat → Nat) (self life s : Nat) (p : Value) : ∀ t i r, i < t → r < 6 → fS n lf D self life s p t ((n + i) * 6 + r) = evF 0 (D i) self life s p r
  | 0, _, _, h, _ => by omega
  | t + 1, i, r, h, hr => by
    show logA (n + t) _ _ _ = _
    by_cases e : i = t
    · subst e
      rw [logA_new]
    · rw [logA_old _ (by omega)]
      exact fS_at n lf D self life s p t i r (by omega) hr

/-- one call of Broadcast in the law's loop: what the log holds behind it -/
theorem round_any (wr : World) (B eb ob self life ni no q L c : Nat) (at0 : Option Addr) (D : Nat → Nat) (W0 : World) (h : LI wr B eb ob (ko self life) self life ni no q D) (hs : self < 4294967296) (hl : life < 4294967296) (hni : ni ≤ 300) (hno : no ≤ 300) (hq : q ≤ 5) (hB : B ≤ wr.heap.size)
    (hob : W0.heap.size ≤ ob) (hWB : W0.heap.size ≤ B) (hb0 : Below W0.heap.size W0 wr) :
    Calls Ybad.prog 5 #[.pointer (some ⟨eb, 0, none⟩), .slice at0 L c] wr fun x w' => x = .returned (mv self life (q + 1) (.slice at0 L c)) ∧ LI w' B eb ob (ko self life) self life ni no (q + 1) D ∧ Below W0.heap.size W0 w' ∧ wr.heap.size ≤ w'.heap.size ∧ (∃ e, E w' eb e ∧ e.ent = (q + 1) * ni ∧ e.dl = true) ∧
      ∃ lb lc, w'.cell? ⟨ob, 0, none⟩ = some (.slice (some ⟨lb, 0, none⟩) (q * (no + 1) + no + 1) lc) ∧ lb < w'.heap.size ∧
        (∀ i, i < no → ∀ r, r < 6 → w'.cell? ⟨lb, (q * (no + 1) + i) * 6 + r, none⟩ = some (evF 0 (D i) self life (q + 1) (.slice at0 L c) r)) ∧
        ∀ r, r < 6 → w'.cell? ⟨lb, (q * (no + 1) + no) * 6 + r, none⟩ = some (evF 1 0 self life (q + 1) (.slice at0 L c) r) := by
  obtain ⟨e, logv, lf, h1, ⟨h2a, h2b, h2c⟩, h3, h4, h5, h6, h7, h8, h9, h10, h11, h12⟩ := h
  have hn : q * (no + 1) ≤ 2000 := Nat.le_trans (Nat.mul_le_mul hq (Nat.succ_le_succ hno)) (by omega)
  have hen : e.ent ≤ 100000 := by rw [h10]; exact Nat.le_trans (Nat.mul_le_mul hq hni) (by omega)
  refine (bcast_any eb ob B (ko self life) ni q no (q * (no + 1)) self life L c at0 e D logv lf wr h1 rfl hs hl hni (by omega) hB h2a h2b h9 h2c h3 h4 h5 h6 h7 h11 h12 hn hno hen).mono ?_
  rintro x w' ⟨rfl, e2, lv, g1, g2, g3, g4, g5⟩
  have hS : ∀ b, b ∉ own eb e → b ≠ ob → logv.ownBlock ≠ some b → b ∉ own eb e ++ ob :: logv.ownBlock.toList := by
    intro b hb1 hb2 hb3 hm
    rcases List.mem_append.1 hm with hm | hm
    · exact hb1 hm
    · rcases List.mem_cons.1 hm with hm | hm
      · exact hb2 hm
      · exact hb3 (by simpa using hm)
  have hge : ∀ b ∈ own eb e ++ ob :: logv.ownBlock.toList, W0.heap.size ≤ b := by
    intro b hm
    rcases List.mem_append.1 hm with hm | hm
    · unfold own at hm
      simp only [List.mem_cons, List.mem_append] at hm
      rcases hm with hm | hm | hm | hm
      · have := h1.hB; omega
      · have := h1.hrm; omega
      · rcases h1.rest with ⟨_, ⟨f, hf⟩, _⟩ | ⟨_, _, ⟨_, _, _, hf⟩, _⟩
        · have := (World.ownsRow.lt hf b (by simpa using hm)).1; omega
        · have := (World.ownsRow.lt hf b (by simpa using hm)).1; omega
      · rcases h1.rest with ⟨_, _, hf⟩ | ⟨_, _, _, _, _, _, hf⟩
        · rw [hf] at hm; simp [Value.ownBlock] at hm
        · have := (World.ownsRow.lt hf b (by simpa using hm)).1; omega
    · rcases List.mem_cons.1 hm with hm | hm
      · omega
      · have := (World.ownsRow.lt h12 b (by simpa using hm)).1; omega
  have hmap : ∀ b, MapE wr b → b ≠ e.rm → MapE w' b := fun b hb hr => (g5.block _ hb.lt (hS b (map_not_own h1 hb hr) (mapE_ne hb h11) (mapE_vec hb h12))).trans hb
  have hout : Vec w' B 61 2 e.outg no (olF D) := g5.vec h3 (fun b hb => hS b (h1.not_own_vec h3 (by decide) (by decide) (by decide) b hb).1 (fun h => vec_ne h3 h11 (by decide) (by rw [hb, h])) (fun h => vec_vec_ne h3 h12 (by decide) b hb h))
  have hsum : q * (no + 1) + no + 1 = (q + 1) * (no + 1) := by rw [Nat.succ_mul]; omega
  have hent2 : e2.ent = (q + 1) * ni := by rw [g2]; show e.ent + ni = _; rw [h10, Nat.succ_mul]
  have hlv : ∃ lb lc, lv = .slice (some ⟨lb, 0, none⟩) (q * (no + 1) + no + 1) lc ∧ lb < w'.heap.size := by
    rcases g4.shape with ⟨_, h0⟩ | ⟨lb, lc, hl1, _, hl2, _⟩
    · omega
    · exact ⟨lb, lc, hl1, hl2⟩
  obtain ⟨lb, lc, rfl, hlb⟩ := hlv
  refine ⟨rfl, ⟨e2, _, _, g1, ⟨by rw [g2]; exact h2a, by rw [g2]; exact h2b, by rw [g2]; exact h2c⟩, ?_, ?_, ?_, by rw [g2]; exact h6, by rw [g2]; exact h7, fun _ => by rw [g2], by rw [g2], hent2, g3, by rw [← hsum]; exact g4⟩, kept_below hb0 g5 hb0.size hge, g5.size, ⟨e2, g1.hE, hent2, by rw [g2]⟩, lb, lc, g3.cell (by omega), hlb, ?_, ?_⟩
  · have : e2.outg = e.outg := by rw [g2]
    rw [this]
    exact hout
  · have : e2.op = e.op := by rw [g2]
    rw [this]
    exact hmap _ h4 h6
  · have : e2.ac = e.ac := by rw [g2]
    rw [this]
    exact hmap _ h5 h7
  · intro i hi r hr
    rw [g4.cell (by omega), logA_old _ (by omega), fS_at _ _ _ _ _ _ _ no i r hi hr]
  · intro r hr
    rw [g4.cell (by omega), logA_new]

end Go.Proofs.YbulkgbaiDoor
