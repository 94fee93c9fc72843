import Derived.Test.YbulkgaioParts
namespace Go.Proofs.Ybulkgaio
open Go.RowKit Go.Zz

theorem settle_no (p : Option Addr) (w : World) : Calls Yba.prog 4 #[.pointer p, .bool false] w fun e w' => e = .returned (.tuple #[]) ∧ w' = w := by
  go_enter Yba.func4, Yba.ntmps4
  go_wp2
  go_end0
  exact ⟨rfl, rfl⟩

set_option maxHeartbeats 1000000 in
theorem settle_yes (O g n cap : Nat) (v5 : Value) (S : ByteArray) (old : Value) (w : World) (hn : n ≤ 1048577) (hn0 : 0 < n)
    (h7 : w.cell? ⟨O, 7, none⟩ = some (.slice (some ⟨g, 0, none⟩) n cap)) (h5 : w.cell? ⟨O, 5, none⟩ = some v5)
    (hcv : (convert 23 9 v5).run Yba.prog w.drew = .ok (.string S) w.drew) (hold : w.cell? ⟨g, (n - 1) * 3 + 1, none⟩ = some old) (hfr : w.frozen? ⟨g, (n - 1) * 3 + 1, none⟩ = false) :
    Calls Yba.prog 4 #[.pointer (some ⟨O, 0, none⟩), .bool true] w fun e w' => e = .returned (.tuple #[]) ∧ w' = (w.setCell ⟨g, (n - 1) * 3 + 1, none⟩ (.string S)).drew := by
  go_enter Yba.func4, Yba.ntmps4
  go_wp2
  go_big_region
  go_wp2
  go_end0
  exact ⟨rfl, rfl⟩

/-- both ways in one: what the attributes read as behind the call; nothing else has turned -/
theorem settle_u (bd : Bool) (O g n cap B : Nat) (v5 : Value) (S : ByteArray) (N V : Nat → ByteArray) (Ln : Nat → Int) (w : World) (hn : n ≤ 1048577) (hn0 : bd = true → 0 < n)
    (h7 : w.cell? ⟨O, 7, none⟩ = some (.slice (some ⟨g, 0, none⟩) n cap)) (h5 : w.cell? ⟨O, 5, none⟩ = some v5)
    (hcv : (convert 23 9 v5).run Yba.prog w.drew = .ok (.string S) w.drew) (hV : Vec w B 28 3 (.slice (some ⟨g, 0, none⟩) n cap) n (atF N V Ln n)) :
    Calls Yba.prog 4 #[.pointer (some ⟨O, 0, none⟩), .bool bd] w fun e w' => e = .returned (.tuple #[]) ∧ Vec w' B 28 3 (.slice (some ⟨g, 0, none⟩) n cap) n (atF N (if bd = true then lastV V n S else V) Ln n) ∧ w.grownBy w' (some g) := by
  cases bd with
  | false =>
    refine (settle_no _ w).mono ?_
    rintro e w' ⟨rfl, rfl⟩
    exact ⟨rfl, by simpa using hV, grownBy_refl _ _⟩
  | true =>
    have h0 := hn0 rfl
    refine (settle_yes O g n cap v5 S _ w hn h0 h7 h5 hcv (hV.cell (by omega)) (hV.frozen _)).mono ?_
    rintro e w' ⟨rfl, rfl⟩
    refine ⟨rfl, ?_, ?_⟩
    · simp only [if_true]
      refine ((hV.set ((n - 1) * 3 + 1) _).drew).congr fun j hj => ?_
      exact atF_last N V Ln n S h0 j hj
    · exact ⟨rfl, rfl, rfl, by simp, fun k _ hk => Deep.blk_setCell_other _ _ _ _ (fun e => hk (by rw [e]))⟩

theorem equal_any (a b : Value) (s : ByteArray) (w : World) (ha : (convert 23 9 a).run Yba.prog w = .ok (.string s) w) (hb : (convert 23 9 b).run Yba.prog w = .ok (.string s) w) :
    Calls Yba.prog 5 #[a, b] w fun e w' => e = .returned (.bool true) ∧ w' = w := by
  go_enter Yba.func5, Yba.ntmps5
  go_wp2
  go_ret
  exact ⟨by simp, rfl⟩

end Go.Proofs.Ybulkgaio
