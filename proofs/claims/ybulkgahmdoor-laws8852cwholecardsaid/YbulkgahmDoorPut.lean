import Derived.Test.YbulkgahmDoorText
namespace Go.Proofs.YbulkgahmDoor
open Go.RowKit Go.Zz

/-- the words of a row of strings -/
def wordF (ws : List (List UInt8)) : Nat → Value := fun j => .string ⟨(ws.getD j []).toArray⟩

theorem take_flatten (ws : List (List UInt8)) (k : Nat) (hk : k < ws.length) : (ws.take (k + 1)).flatten = (ws.take k).flatten ++ ws.getD k [] := by
  rw [List.take_add_one, List.flatten_append]
  simp [hk, List.getD]

theorem take_flatten_le (ws : List (List UInt8)) (k : Nat) : (ws.take k).flatten.length ≤ ws.flatten.length := by
  have h := congrArg (fun x => (List.flatten x).length) (List.take_append_drop k ws)
  simp only [List.flatten_append, List.length_append] at h
  omega

set_option maxHeartbeats 1000000 in
set_option maxRecDepth 100000 in
theorem put_any (w0 : World) (b : Nat) (hp : Value) (l : List UInt8) (ws : List (List UInt8)) (q c : Nat) (w : World) (h : Tx w0 b hp w l) (hn : ws.length ≤ 3) (hlen : l.length + ws.flatten.length ≤ cap46) (hq : w.rowIs q 9 ws.length (wordF ws)) :
    Calls Ybad.prog 21 #[.pointer (some ⟨b, 0, none⟩), .slice (some ⟨q, 0, none⟩) ws.length c] w fun e w' => e = .returned (.tuple #[]) ∧ Tx w0 b hp w' (l ++ ws.flatten) := by
  obtain ⟨n, hnn⟩ : ∃ n, n = ws.length := ⟨_, rfl⟩
  rw [← hnn] at hq hn ⊢
  have HL := hid hlen
  have HN := hid hnn
  clear hlen hnn
  go_enter Ybad.func21, Ybad.ntmps21
  go_wp2
  go_loopw [8, 5] (fun i _ wr => ∃ k : Nat, k ≤ n ∧ i = .int .i64 k ∧ wr.rowIs q 9 n (wordF ws) ∧ Tx w0 b hp wr (l ++ (ws.take k).flatten)) (fun i _ _ => n - (intOf i).toNat)
  case atStart => exact ⟨0, by omega, rfl, hq, by simpa using h⟩
  case round =>
    obtain ⟨k, hk, rfl, hq', hT⟩ := hrel
    by_cases hkn : k < n
    · obtain ⟨s, hs⟩ : ∃ s, s = ws.getD k [] := ⟨_, rfl⟩
      have htk := take_flatten ws k (by rw [← HN.out]; exact hkn)
      rw [← hs] at htk
      obtain ⟨l', hl'⟩ : ∃ l', l' = l ++ (ws.take k).flatten := ⟨_, rfl⟩
      rw [← hl'] at hT
      have hcap : l'.length + s.length ≤ cap46 := by
        have h1 := HL.out
        have h2 := take_flatten_le ws (k + 1)
        rw [htk] at h2
        rw [hl']
        simp only [List.length_append] at h2 ⊢
        omega
      have c0 : wr.cell? ⟨q, k, none⟩ = some (.string ⟨s.toArray⟩) := by rw [hq'.cell hkn, hs]; rfl
      have hw := hid (write_any w0 b hp l' s wr hT hcap)
      have HT := hid hT
      have HQ := hid hq'
      have HC := hid hcap
      have HS := hid hs
      have HE := hid htk
      have HP := hid hl'
      clear hT hq' hcap hs htk hl'
      go_wp2_with (go_at_call 8; refine hw.out.mono ?_; rintro e w1 ⟨⟨n1, rfl⟩, hT1, ho1⟩)
      go_roundw
      case rel =>
        refine ⟨k + 1, by omega, by go_num, ho1.row HQ.out (by decide) (by decide), ?_⟩
        rw [HE.out, ← List.append_assoc, ← HP.out]
        exact hT1
      case measure => simp [intOf]; omega
    · go_wp2
      go_end0
      have e : k = n := by omega
      subst e
      rw [HN.out, List.take_length] at hT
      exact ⟨rfl, hT⟩
end Go.Proofs.YbulkgahmDoor
