import Derived.Test.YbulkgbaiDoorBase
import Derived.Test.YbulkgbaiDoorProg
import Derived.Lib.LaidTab
namespace Go.Proofs.YbulkgbaiDoor
open Go.RowKit Go.Zz

/-! ### math/bits.OnesCount64 -/
def oc1 (x : Int) : Int := IntKind.u64.wrap (bits .and .u64 (x / 2) 6148914691236517205 + bits .and .u64 x 6148914691236517205)
def oc2 (x : Int) : Int := IntKind.u64.wrap (bits .and .u64 (x / 4) 3689348814741910323 + bits .and .u64 x 3689348814741910323)
def oc3 (x : Int) : Int := bits .and .u64 (IntKind.u64.wrap (x / 16 + x)) 1085102592571150095
def oc4 (x : Int) : Int := IntKind.u64.wrap (x + x / 256)
def oc5 (x : Int) : Int := IntKind.u64.wrap (x + x / 65536)
def oc6 (x : Int) : Int := IntKind.u64.wrap (x + x / 4294967296)
def oc (x : Int) : Int := bits .and .i64 (wrap64 (oc6 (oc5 (oc4 (oc3 (oc2 (oc1 x))))))) 127

theorem oc_any (n : Nat) (w : World) : Calls Ybad.prog 24 #[.int .u64 (n : Int)] w fun e w' => e = .returned (.int .i64 (oc n)) ∧ w' = w := by
  go_enter Ybad.func24, Ybad.ntmps24
  go_wp2
  go_ret
  exact ⟨rfl, rfl⟩

/-- the word of b links: the b lowest bits -/
def ones (b : Nat) : Nat := 2 ^ b - 1

theorem oc_ones : ∀ b, b < 65 → oc (ones b : Nat) = b := by decide +kernel

/-! ### math/bits.TrailingZeros64 -/
def deTab : List Int := [0, 1, 56, 2, 57, 49, 28, 3, 61, 58, 42, 50, 38, 29, 17, 4, 62, 47, 59, 36, 45, 43, 51, 22, 53, 39, 33, 30, 24, 18, 12, 5, 63, 55, 48, 27, 60, 41, 37, 16, 46, 35, 44, 21, 52, 32, 23, 11, 54, 26, 40, 15, 34, 20, 31, 10, 25, 14, 19, 9, 13, 8, 7, 6]

def Tab (w : World) : Prop := Lib.TabIs Ybad.prog w "math/bits.deBruijn64tab" .u8 deTab

theorem tz_any (n i : Nat) (h : n < 18446744073709551616) (h0 : 0 < n) (hi : i < 64) (w : World) (c : Int) (hc : w.cell? ⟨0, i, none⟩ = some (.int .u8 c)) (hc0 : 0 ≤ c) (hc1 : c < 256)
    (hix : IntKind.u64.wrap (bits .and .u64 (n : Int) (IntKind.u64.wrap (-(n : Int))) * 285870213051353865) / 288230376151711744 = (i : Int)) :
    Calls Ybad.prog 16 #[.int .u64 (n : Int)] w fun e w' => e = .returned (.int .i64 c) ∧ w' = w := by
  have e0 : ((n : Int) == 0) = false := by simp; omega
  go_enter Ybad.func16, Ybad.ntmps16
  go_wp2
  go_ret
  exact ⟨rfl, rfl⟩

/-- the place in the table that the word of b links comes to -/
def tzI (n : Nat) : Int := IntKind.u64.wrap (bits .and .u64 (n : Int) (IntKind.u64.wrap (-(n : Int))) * 285870213051353865) / 288230376151711744

theorem tz_ones : ∀ b, b < 64 → (18446744073709551615 - ones b < 18446744073709551616 ∧ 0 < 18446744073709551615 - ones b) ∧ (tzI (18446744073709551615 - ones b)).toNat < 64 ∧ 0 ≤ tzI (18446744073709551615 - ones b) ∧ deTab.getD (tzI (18446744073709551615 - ones b)).toNat 0 = b := by decide +kernel

theorem tz_at (b : Nat) (hb : b < 64) (w : World) (ht : Tab w) : Calls Ybad.prog 16 #[.int .u64 ((18446744073709551615 - ones b : Nat) : Int)] w fun e w' => e = .returned (.int .i64 (b : Int)) ∧ w' = w := by
  obtain ⟨⟨h1, h2⟩, h3, h4, h5⟩ := tz_ones b hb
  have hc := Lib.TabIs.cell ht (show Ybad.prog.globalNamed "math/bits.deBruijn64tab" = some 0 by kernel_rfl) _ (show (tzI (18446744073709551615 - ones b)).toNat < deTab.length from h3)
  rw [h5] at hc
  exact tz_any _ _ h1 h2 h3 w _ hc (by omega) (by omega) (Int.toNat_of_nonneg h4).symm
end Go.Proofs.YbulkgbaiDoor
