import Derived.Test.YbulkgbaiLeave
namespace Go.Proofs.Ybulkgbai
open Go.RowKit Go.Zz Go.Maps

theorem ST.congr {w : World} {B eb : Nat} {e : EV} {D : Dat} (h : ST w B eb e D) {MI : Nat → Bool} {bw : Nat → Nat} {MR : Nat → Bool} {fl : List Nat} {sl : Nat} {MA : Nat → Bool} {rl : Nat → Int} {rt : Nat → Nat} {MV : Nat → Bool}
    (h1 : ∀ i, i < D.I → D.MI i = MI i) (h2 : ∀ i, i < D.N → D.bw i = bw i) (h3 : ∀ i, i < D.N → D.MR i = MR i) (h4 : D.fl = fl) (h5 : D.sl = sl) (h6 : ∀ j, j < D.m → D.MA j = MA j) (h7 : ∀ k, k < D.R → D.MV k = true → D.rl k = rl k ∧ D.rt k = rt k) (h8 : ∀ k, k < D.R → D.MV k = MV k) :
    ST w B eb e { D with MI := MI, bw := bw, MR := MR, fl := fl, sl := sl, MA := MA, rl := rl, rt := rt, MV := MV } where
  hE := h.hE
  inc := h.inc.congr h1 (fun _ _ _ => rfl)
  rm := h.rm.congr h3 (fun _ _ _ => rfl)
  bits := h.bits.congr fun i hi => by rw [h2 i (by omega)]
  slots := by rw [← h5]; exact h.slots
  free := by rw [← h4]; exact h.free
  ac := h.ac.congr h6 (fun _ _ _ => rfl)
  has := h.has
  ar := h.ar.congr h8 (fun k hk hM => by rw [(h7 k hk hM).1, (h7 k hk hM).2])
  op := h.op
  maps := h.maps
  dis := h.dis

theorem ix_inj {w : World} {P : Program} {k : TypeId} {b m : Nat} {K V : Nat → Value} {M : Nat → Bool} (h : IX w P k b m K V M) {i j : Nat} (hi : i < m) (hj : j < m) (e : K i = K j) : i = j := h.2.1 i j hi hj e

theorem dropF_zero (x : Nat) : dropF x 0 = x := by unfold dropF; simp
theorem hadF_zero (x : Nat) : hadF x 0 = false := by unfold hadF; simp
theorem freed_zero (x : Nat) : freed x 0 = false := by unfold freed; rw [hadF_zero]; rfl

theorem and_max (x : Nat) (h : x < 64) : x &&& (18446744073709551615 - 0) = x := by
  rw [show 18446744073709551615 - 0 = 2 ^ 64 - 1 by decide, Nat.and_two_pow_sub_one_eq_mod]
  omega

/-- the bit of the link's slot, 0 where there is no link -/
def SlotBit (D : Dat) (fr b : Nat) : Prop := (∃ i, i < D.I ∧ D.ids i = fr ∧ i < 6 ∧ 2 ^ i = b) ∨ ((∀ i, i < D.I → D.ids i ≠ fr) ∧ b = 0)

/-- the state behind unlinkFrom -/
def unlD (D : Dat) (fr b : Nat) (fl : List Nat) : Dat := { D with MI := fun i => !decide (D.ids i = fr), bw := fun r => dropF (D.bw r) b, MR := fun r => !(freed (D.bw r) b), fl := fl, sl := D.sl &&& (18446744073709551615 - b) }

/-- (*Engine).unlinkFrom -/
theorem unlink_any (eb B fr b : Nat) (e : EV) (D : Dat) (w : World) (h : ST w B eb e D) (hB : B ≤ eb) (hfr : fr < 4294967296) (hb : SlotBit D fr b) (hMI : ∀ i, D.MI i = true) (hMR : ∀ r, D.MR r = true) (hW : e.words = 1) (hfl : D.fl = []) (hfree : e.free = .slice none 0 0) (hN : D.N ≤ 4096) (hbw : ∀ r, D.bw r < 64) (hsl : D.sl < 64) (hent : IntKind.i64.wrap e.ent = e.ent) :
    Calls Yba.prog 22 #[.pointer (some ⟨eb, 0, none⟩), .int .u32 (fr : Int)] w fun x w' => (∃ d, x = .returned (.bool d)) ∧ ∃ fl fv,
      ST w' B eb { e with free := fv, ent := IntKind.i64.wrap (e.ent - (cnt D.N (fun r => hadF (D.bw r) b) : Nat)) } (unlD D fr b fl) ∧
      fl.Perm ((List.range D.N).filter (fun r => freed (D.bw r) b)) ∧ Kept (eb :: e.inc :: e.rm :: (e.bits.ownBlock.toList ++ e.slots.ownBlock.toList)) w w' := by
  rcases hb with ⟨i, hi, hid0, hi6, hb⟩ | ⟨hno, rfl⟩
  · refine (unlink_some eb B fr i b e D w h hB hi hid0 (hMI i) hi6 hb hMR hW hfree hN hbw hsl).mono ?_
    rintro x w' ⟨hx, fl, fv, h1, h2, h3⟩
    refine ⟨hx, fl, fv, ?_, h2, h3⟩
    refine h1.congr (fun j hj => ?_) (fun _ _ => rfl) (fun _ _ => rfl) rfl rfl (fun _ _ => rfl) (fun _ _ _ => ⟨rfl, rfl⟩) (fun _ _ => rfl)
    show (D.MI j && !decide (j = i)) = !decide (D.ids j = fr)
    rw [hMI j]
    have : (j = i) ↔ (D.ids j = fr) := ⟨fun e1 => by rw [e1, hid0], fun e1 => ix_inj h.inc hj hi (by rw [e1, hid0])⟩
    simp [this]
  · refine (unlink_none eb B fr e D w h hfr hno).mono ?_
    rintro x w' ⟨hx, hk⟩
    refine ⟨hx, [], .slice none 0 0, ?_, ?_, hk.mono (by simp)⟩
    · rw [cnt_none _ _ fun r _ => hadF_zero _]
      have e1 : ({ e with free := .slice none 0 0, ent := IntKind.i64.wrap (e.ent - ((0 : Nat) : Int)) } : EV) = e := by
        rw [show e.ent - ((0 : Nat) : Int) = e.ent by omega, hent, ← hfree]
      rw [e1]
      refine (h.quiet hk).congr (fun j hj => ?_) (fun r _ => (dropF_zero _).symm) (fun r _ => ?_) hfl (and_max _ hsl).symm (fun _ _ => rfl) (fun _ _ _ => ⟨rfl, rfl⟩) (fun _ _ => rfl)
      · rw [hMI j]
        simp [hno j hj]
      · rw [hMR r, freed_zero]
        rfl
    · rw [List.filter_eq_nil_iff.2 fun r _ => by simp [freed_zero]]

/-- does the last link from there go -/
def Gone (D : Dat) (fr : Nat) (g : Bool) : Prop := (∃ k, k < D.R ∧ D.rid k = fr ∧ g = decide (¬ 0 < wrap64 (D.rl k - 1))) ∨ ((∀ k, k < D.R → D.rid k ≠ fr) ∧ g = false)

/-- the state behind leave -/
def leaveD (D : Dat) (fr : Nat) (g : Bool) : Dat := { D with MA := fun j => D.MA j && !(g && hit D.f D.nn fr 18446744073709551615 j), rl := fun k => if D.rid k = fr then wrap64 (D.rl k - 1) else D.rl k, MV := fun k => !(decide (D.rid k = fr) && g) }

/-- (*Engine).leave -/
theorem leave_any (eb B fr : Nat) (g : Bool) (e : EV) (D : Dat) (w : World) (h : ST w B eb e D) (hfr : fr < 4294967296) (hg : Gone D fr g) (hMV : ∀ k, D.MV k = true) (hR : D.R ≤ 4096) (hent : IntKind.i64.wrap e.ent = e.ent) :
    Calls Yba.prog 24 #[.pointer (some ⟨eb, 0, none⟩), .int .u32 (fr : Int)] w fun x w' => x = .returned (.tuple #[]) ∧
      ST w' B eb { e with ent := IntKind.i64.wrap (e.ent - (tot D.m (fun j => D.MA j && (g && hit D.f D.nn fr 18446744073709551615 j)) (fun j => D.la j + D.lb j) : Nat)) } (leaveD D fr g) ∧ Kept [eb, e.ac, e.ar] w w' := by
  have hz : g = false → ({ e with ent := IntKind.i64.wrap (e.ent - (tot D.m (fun j => D.MA j && (g && hit D.f D.nn fr 18446744073709551615 j)) (fun j => D.la j + D.lb j) : Nat)) } : EV) = e := fun hg => by
    rw [tot_none fun j _ => by simp [hg], show e.ent - ((0 : Nat) : Int) = e.ent by omega, hent]
  rcases hg with ⟨k, hk, hrid, hg⟩ | ⟨hno, hg⟩
  · have hiff : ∀ j, j < D.R → ((j = k) ↔ (D.rid j = fr)) := fun j hj => ⟨fun e1 => by rw [e1, hrid], fun e1 => ix_inj h.ar hj hk (by rw [e1, hrid])⟩
    by_cases hl0 : 0 < wrap64 (D.rl k - 1)
    · have hg' : g = false := by rw [hg]; simp [hl0]
      rw [hz hg']
      refine (leave_more eb B fr k _ e D w h hR hk hrid (hMV k) rfl hl0).mono ?_
      rintro x w' ⟨hx, h1, h2⟩
      refine ⟨hx, ?_, h2.mono (by simp)⟩
      refine h1.congr (fun _ _ => rfl) (fun _ _ => rfl) (fun _ _ => rfl) rfl rfl (fun j _ => by simp [hg']) (fun j hj _ => ⟨?_, rfl⟩) (fun j _ => by rw [hMV j, hg']; simp)
      show (if j = k then wrap64 (D.rl k - 1) else D.rl j) = if D.rid j = fr then wrap64 (D.rl j - 1) else D.rl j
      by_cases e2 : j = k
      · subst e2; simp [hrid]
      · rw [if_neg e2, if_neg fun e3 => e2 ((hiff j hj).2 e3)]
    · have hg' : g = true := by rw [hg]; simp [hl0]
      refine (leave_gone eb B fr k _ e D w h hk hrid (hMV k) rfl hl0 hent).mono ?_
      rintro x w' ⟨hx, h1, h2⟩
      refine ⟨hx, ?_, h2⟩
      rw [show (fun j => D.MA j && (g && hit D.f D.nn fr 18446744073709551615 j)) = (fun j => D.MA j && hit D.f D.nn fr 18446744073709551615 j) from funext fun j => by simp [hg']]
      refine h1.congr (fun _ _ => rfl) (fun _ _ => rfl) (fun _ _ => rfl) rfl rfl (fun j _ => by simp [hg']) (fun j hj hM => ⟨?_, rfl⟩) (fun j hj => ?_)
      · have hM' : (D.MV j && !decide (j = k)) = true := hM
        simp at hM'
        exact (if_neg fun e3 => hM'.2 ((hiff j hj).2 e3)).symm
      · show (D.MV j && !decide (j = k)) = !(decide (D.rid j = fr) && g)
        rw [hMV j, hg']
        simp [hiff j hj]
  · rw [hz hg]
    refine (leave_none eb B fr e D w h hfr hno).mono ?_
    rintro x w' ⟨hx, hk⟩
    refine ⟨hx, (h.quiet hk).congr (fun _ _ => rfl) (fun _ _ => rfl) (fun _ _ => rfl) rfl rfl (fun j _ => by simp [hg]) (fun j hj _ => ⟨(if_neg (hno j hj)).symm, rfl⟩) (fun j _ => by rw [hMV j, hg]; simp), hk.mono (by simp)⟩

/-- the handshakes that go -/
def del (D : Dat) (fr n : Nat) (g : Bool) (j : Nat) : Bool := decide (D.f j = fr) && (decide (D.nn j ≤ n) || g)

/-- the state behind Ended -/
def endD (D : Dat) (fr n b : Nat) (g : Bool) (fl : List Nat) : Dat :=
  { D with MI := fun i => !decide (D.ids i = fr), bw := fun r => dropF (D.bw r) b, MR := fun r => !(freed (D.bw r) b), fl := fl, sl := D.sl &&& (18446744073709551615 - b), MA := fun j => !(del D fr n g j), rl := fun k => if D.rid k = fr then wrap64 (D.rl k - 1) else D.rl k, rt := fun k => if D.rid k = fr then max (D.rt k) n else D.rt k, MV := fun k => !(decide (D.rid k = fr) && g) }

/-- the first step: the last link's number -/
def topD (D : Dat) (fr n : Nat) : Dat := { D with rt := fun k => if D.rid k = fr then max (D.rt k) n else D.rt k }

theorem tot_add {m : Nat} {G H K : Nat → Bool} {buf : Nat → Nat} (h : ∀ i, i < m → (K i = (G i || H i)) ∧ (G i && H i) = false) : tot m K buf = tot m G buf + tot m H buf := by
  induction m with
  | zero => rfl
  | succ m ih =>
    obtain ⟨h1, h2⟩ := h m (by omega)
    rw [tot, tot, tot, ih fun i hi => h i (by omega), h1]
    cases hG : G m <;> cases hH : H m <;> simp_all <;> omega

theorem wrap_wrap (x : Int) : IntKind.i64.wrap (IntKind.i64.wrap x) = IntKind.i64.wrap x := by
  rw [IntKind.wrap_i64, IntKind.wrap_i64]
  omega
end Go.Proofs.Ybulkgbai
