/- Contracts off the library's shelf at this program's numbers (FormatInt at base 10, Clone, Equal), in plain words, by the shelf's own program (lay-plain.mjs). -/
import Derived.Shelf.Strconv.Itoa4
import Derived.Shelf.LaysM
import Derived.Shelf.SlicesE.Equal
import Derived.Shelf.SlicesE.Clone
import Derived.Test.YbulkgahmDoorProg
namespace Go.Proofs
open Go.Shelf
def Ybad.laysM173_ren : Go.Shelf.Ren := ⟨fun | 173 => 11 | 246 => 23 | 283 => 26 | 284 => 27 | 285 => 28 | 286 => 29 | 129 => 31 | 317 => 30 | 318 => 32 | 319 => 33 | 320 => 34 | 337 => 35 | 338 => 36 | n => n, fun | 2 => 2 | 3 => 3 | 9 => 9 | 4 => 4 | 171 => 78 | 0 => 0 | 53 => 79 | 37 => 50 | 5 => 5 | 173 => 82 | 212 => 87 | 51 => 24 | 20 => 20 | 213 => 88 | 46 => 90 | 232 => 93 | 233 => 94 | n => n, fun | 17 => 0 | 18 => 1 | 19 => 2 | n => n⟩
theorem Ybad.laysM173 : Go.Proofs.LaysM.n173 Ybad.prog Ybad.laysM173_ren := {
  mixed := by kernel_rfl
  f129 := Ybad.func31.trans (congrArg some (by kernel_rfl))
  f173 := Ybad.func11.trans (congrArg some (by kernel_rfl))
  f246 := Ybad.func23.trans (congrArg some (by kernel_rfl))
  f283 := Ybad.func26.trans (congrArg some (by kernel_rfl))
  f284 := Ybad.func27.trans (congrArg some (by kernel_rfl))
  f285 := Ybad.func28.trans (congrArg some (by kernel_rfl))
  f286 := Ybad.func29.trans (congrArg some (by kernel_rfl))
  f317 := Ybad.func30.trans (congrArg some (by kernel_rfl))
  f318 := Ybad.func32.trans (congrArg some (by kernel_rfl))
  f319 := Ybad.func33.trans (congrArg some (by kernel_rfl))
  f320 := Ybad.func34.trans (congrArg some (by kernel_rfl))
  f337 := Ybad.func35.trans (congrArg some (by kernel_rfl))
  f338 := Ybad.func36.trans (congrArg some (by kernel_rfl))
  t0 := Ybad.underlying0
  a0 := Ybad.isAgg0
  z0 := Ybad.sizeOf0
  v0 := Ybad.zeroValue0
  t2 := Ybad.underlying2
  a2 := Ybad.isAgg2
  z2 := Ybad.sizeOf2
  v2 := Ybad.zeroValue2
  t3 := Ybad.underlying3
  a3 := Ybad.isAgg3
  z3 := Ybad.sizeOf3
  v3 := Ybad.zeroValue3
  t4 := Ybad.underlying4
  a4 := Ybad.isAgg4
  z4 := Ybad.sizeOf4
  v4 := Ybad.zeroValue4
  t5 := Ybad.underlying5
  a5 := Ybad.isAgg5
  z5 := Ybad.sizeOf5
  v5 := Ybad.zeroValue5
  t9 := Ybad.underlying9
  a9 := Ybad.isAgg9
  z9 := Ybad.sizeOf9
  v9 := Ybad.zeroValue9
  t20 := Ybad.underlying20
  a20 := Ybad.isAgg20
  z20 := Ybad.sizeOf20
  v20 := Ybad.zeroValue20
  t37 := Ybad.underlying50
  a37 := Ybad.isAgg50
  z37 := Ybad.sizeOf50
  v37 := Ybad.zeroValue50
  t46 := Ybad.underlying90
  a46 := Ybad.isAgg90
  z46 := Ybad.sizeOf90
  v46 := Ybad.zeroValue90
  t51 := Ybad.underlying24
  a51 := Ybad.isAgg24
  z51 := Ybad.sizeOf24
  v51 := Ybad.zeroValue24
  t53 := Ybad.underlying79
  a53 := Ybad.isAgg79
  z53 := Ybad.sizeOf79
  v53 := Ybad.zeroValue79
  t171 := Ybad.underlying78
  a171 := Ybad.isAgg78
  z171 := Ybad.sizeOf78
  v171 := Ybad.zeroValue78
  t173 := Ybad.underlying82
  a173 := Ybad.isAgg82
  z173 := Ybad.sizeOf82
  v173 := Ybad.zeroValue82
  t212 := Ybad.underlying87
  a212 := Ybad.isAgg87
  z212 := Ybad.sizeOf87
  v212 := Ybad.zeroValue87
  t213 := Ybad.underlying88
  a213 := Ybad.isAgg88
  z213 := Ybad.sizeOf88
  t232 := Ybad.underlying93
  a232 := Ybad.isAgg93
  z232 := Ybad.sizeOf93
  v232 := Ybad.zeroValue93
  t233 := Ybad.underlying94
  a233 := Ybad.isAgg94
  z233 := Ybad.sizeOf94
  v233 := Ybad.zeroValue94
  g17 := by kernel_rfl
  g18 := by kernel_rfl
  g19 := by kernel_rfl
  i0 := by kernel_rfl
  i2 := by kernel_rfl
  i3 := by kernel_rfl
  i4 := by kernel_rfl
  i5 := by kernel_rfl
  i9 := by kernel_rfl
  i20 := by kernel_rfl
  i37 := by kernel_rfl
  i46 := by kernel_rfl
  i51 := by kernel_rfl
  i53 := by kernel_rfl
  i171 := by kernel_rfl
  i173 := by kernel_rfl
  i212 := by kernel_rfl
  i232 := by kernel_rfl
  i233 := by kernel_rfl
  m17 := by kernel_rfl
  m18 := by kernel_rfl
  m19 := by kernel_rfl }
open Go.RowKit Go.Sort Go.Lib in
/-- strconv.FormatInt: "FormatInt returns the string representation of i in the given base": AT BASE 10: i's decimal numeral, for every int64. (LAID: no walk: one application.) -/
theorem Ybad.strconv_FormatInt_10 (n : Int) (h0 : -9223372036854775808 ≤ n) (h1 : n ≤ 9223372036854775807) (w : World) (htab : Lib.TabIs Ybad.prog w "internal/strconv.uint64pow10" .u64 Lib.pow10Tab) :
    Calls Ybad.prog 11 #[.int .i64 n, .int .i64 10] w fun e w' => e = .returned (.string ⟨(Lib.itoa n).toArray⟩) ∧ ∃ k os, w' = grow (w.drewN k) os := Any.strconv_FormatInt_10 Ybad.laysM173 n h0 h1 w htab
def Ybad.laysSlE33_f15_ren : Go.Shelf.Ren := ⟨fun | 33 => 15 | n => n, fun | 22 => 41 | 23 => 21 | 4 => 4 | 3 => 3 | 0 => 0 | n => n, fun | n => n⟩
theorem Ybad.laysSlE33_f15 : Go.Proofs.SlLaysE.n33 Ybad.prog Ybad.laysSlE33_f15_ren := {
  mixed := by kernel_rfl
  f33 := ⟨Ybad.f15.name, by decide, Ybad.func15.trans (congrArg some (by kernel_rfl))⟩
  t0 := Ybad.underlying0
  a0 := Ybad.isAgg0
  z0 := Ybad.sizeOf0
  v0 := Ybad.zeroValue0
  t3 := Ybad.underlying3
  a3 := Ybad.isAgg3
  z3 := Ybad.sizeOf3
  v3 := Ybad.zeroValue3
  t4 := Ybad.underlying4
  a4 := Ybad.isAgg4
  z4 := Ybad.sizeOf4
  v4 := Ybad.zeroValue4
  t22 := Ybad.underlying41
  a22 := Ybad.isAgg41
  z22 := Ybad.sizeOf41
  v22 := Ybad.zeroValue41
  a23 := Ybad.isAgg21
  z23 := Ybad.sizeOf21 }
open Go.RowKit Go.Lib in
/-- slices.Equal: "Equal reports whether two slices are equal: the same length and all elements equal. .. Empty and nil slices are considered equal. Floating point NaNs are not considered equal.": IT RETURNS 'Lib.allEq eq (the one's elements) (the other's)'; the world is as it was but for the count of draws. (LAID AT THE INSTANCE 'slices.Equal[[]int32,int32]': no walk: one application.) -/
theorem Ybad.slices_Equal {α : Type} [Inhabited α] (enc : α → Value) (eq : α → α → Bool) (hne : NeqAt Ybad.prog 21 enc eq) (b1 o1 n c b2 o2 m d : Nat) (xs ys : List α) (w : World) (hx : n ≤ xs.length) (hy : m ≤ ys.length) (hbig : n ≤ 9223372036854775807) (hbig2 : m ≤ 9223372036854775807) (hc1 : ∀ j, j < xs.length → w.cell? ⟨b1, o1 + j, none⟩ = some (enc xs[j]!)) (hc2 : ∀ j, j < ys.length → w.cell? ⟨b2, o2 + j, none⟩ = some (enc ys[j]!)) :
    Calls Ybad.prog 15 #[.slice (some ⟨b1, o1, none⟩) n c, .slice (some ⟨b2, o2, none⟩) m d] w fun e w' => e = .returned (.bool (Lib.allEq eq (xs.take n) (ys.take m))) ∧ ∃ q, w' = w.drewN q := AnyE.slices_Equal Ybad.laysSlE33_f15 enc eq hne b1 o1 n c b2 o2 m d xs ys w hx hy hbig hbig2 hc1 hc2
def Ybad.laysSlE041_f4_ren : Go.Shelf.Ren := ⟨fun | 41 => 4 | n => n, fun | 22 => 22 | 23 => 2 | 4 => 4 | n => n, fun | n => n⟩
theorem Ybad.laysSlE041_f4 : Go.Proofs.SlLaysE0.n41 Ybad.prog Ybad.laysSlE041_f4_ren := {
  mixed := by kernel_rfl
  f41 := ⟨Ybad.f4.name, by decide, Ybad.func4.trans (congrArg some (by kernel_rfl))⟩
  t4 := Ybad.underlying4
  a4 := Ybad.isAgg4
  z4 := Ybad.sizeOf4
  v4 := Ybad.zeroValue4
  t22 := Ybad.underlying22
  a22 := Ybad.isAgg22
  z22 := Ybad.sizeOf22
  v22 := Ybad.zeroValue22 }
open Go.RowKit Go.Lib in
/-- slices.Clone: "Clone returns a copy of the slice. The elements are copied using assignment, so this is a shallow clone. The result may have additional unused capacity. The result preserves the nilness of s.": OF A SLICE THAT IS NOT nil IT RETURNS A SLICE THAT IS NOT nil, OF THE SAME CELLS, IN MEMORY OF THE CALL's OWN ('ownsRow': the how-to's 6f); below the heap's size at the call all is as it was. (LAID AT THE INSTANCE 'slices.Clone[[]int64,int64]': no walk: one application.) -/
theorem Ybad.slices_Clone_f4 (i0 : TypeInfo) (z : Value) (size bytes : Nat) (hi : Ybad.prog.info? 2 = some i0) (hz0 : i0.zero = some z) (hz1 : i0.size = size) (hz2 : i0.bytes = bytes) (hzs : z.cells.size = size) (hsz : 0 < size) (z23 : ∀ w, (Go.sizeOf 2).run Ybad.prog w = .ok size w) (b off n c : Nat) (news : List Value) (w : World) (hl : news.length = n * size) (hn : n ≤ maxLen) (hbig : n * bytes ≤ 140737488355328) (hc : ∀ j u, news[j]? = some u → w.cell? ⟨b, off + j, none⟩ = some u) (h1 : ∀ u ∈ news, u.oneCell' = true) :
    Calls Ybad.prog 4 #[.slice (some ⟨b, off, none⟩) n c] w fun e w' => ∃ v', e = .returned v' ∧ w'.ownsRow w.heap.size 2 size v' n news ∧ v' ≠ .slice none 0 0 ∧ Below w.heap.size w w' := AnyE.slices_Clone Ybad.laysSlE041_f4 i0 z size bytes hi hz0 hz1 hz2 hzs hsz z23 b off n c news w hl hn hbig hc h1
def Ybad.laysSlE041_f7_ren : Go.Shelf.Ren := ⟨fun | 41 => 7 | n => n, fun | 22 => 41 | 23 => 21 | 4 => 4 | n => n, fun | n => n⟩
theorem Ybad.laysSlE041_f7 : Go.Proofs.SlLaysE0.n41 Ybad.prog Ybad.laysSlE041_f7_ren := {
  mixed := by kernel_rfl
  f41 := ⟨Ybad.f7.name, by decide, Ybad.func7.trans (congrArg some (by kernel_rfl))⟩
  t4 := Ybad.underlying4
  a4 := Ybad.isAgg4
  z4 := Ybad.sizeOf4
  v4 := Ybad.zeroValue4
  t22 := Ybad.underlying41
  a22 := Ybad.isAgg41
  z22 := Ybad.sizeOf41
  v22 := Ybad.zeroValue41 }
open Go.RowKit Go.Lib in
/-- slices.Clone: "Clone returns a copy of the slice. The elements are copied using assignment, so this is a shallow clone. The result may have additional unused capacity. The result preserves the nilness of s.": OF A SLICE THAT IS NOT nil IT RETURNS A SLICE THAT IS NOT nil, OF THE SAME CELLS, IN MEMORY OF THE CALL's OWN ('ownsRow': the how-to's 6f); below the heap's size at the call all is as it was. (LAID AT THE INSTANCE 'slices.Clone[[]int32,int32]': no walk: one application.) -/
theorem Ybad.slices_Clone_f7 (i0 : TypeInfo) (z : Value) (size bytes : Nat) (hi : Ybad.prog.info? 21 = some i0) (hz0 : i0.zero = some z) (hz1 : i0.size = size) (hz2 : i0.bytes = bytes) (hzs : z.cells.size = size) (hsz : 0 < size) (z23 : ∀ w, (Go.sizeOf 21).run Ybad.prog w = .ok size w) (b off n c : Nat) (news : List Value) (w : World) (hl : news.length = n * size) (hn : n ≤ maxLen) (hbig : n * bytes ≤ 140737488355328) (hc : ∀ j u, news[j]? = some u → w.cell? ⟨b, off + j, none⟩ = some u) (h1 : ∀ u ∈ news, u.oneCell' = true) :
    Calls Ybad.prog 7 #[.slice (some ⟨b, off, none⟩) n c] w fun e w' => ∃ v', e = .returned v' ∧ w'.ownsRow w.heap.size 21 size v' n news ∧ v' ≠ .slice none 0 0 ∧ Below w.heap.size w w' := AnyE.slices_Clone Ybad.laysSlE041_f7 i0 z size bytes hi hz0 hz1 hz2 hzs hsz z23 b off n c news w hl hn hbig hc h1
open Go.RowKit Go.Lib in
/-- The same at nil: nil comes back; the world is as it was; nothing is asked of the element's type. (LAID AT THE INSTANCE 'slices.Clone[[]int64,int64]': no walk: one application.) -/
theorem Ybad.slices_Clone_nil_f4 (n c : Nat) (w : World) :
    Calls Ybad.prog 4 #[.slice none n c] w fun e w' => e = .returned (.slice none 0 0) ∧ w' = w := AnyE.slices_Clone_nil Ybad.laysSlE041_f4 n c w
open Go.RowKit Go.Lib in
/-- The same at nil: nil comes back; the world is as it was; nothing is asked of the element's type. (LAID AT THE INSTANCE 'slices.Clone[[]int32,int32]': no walk: one application.) -/
theorem Ybad.slices_Clone_nil_f7 (n c : Nat) (w : World) :
    Calls Ybad.prog 7 #[.slice none n c] w fun e w' => e = .returned (.slice none 0 0) ∧ w' = w := AnyE.slices_Clone_nil Ybad.laysSlE041_f7 n c w
def Ybad.laysSlE041_f5_ren : Go.Shelf.Ren := ⟨fun | 41 => 5 | n => n, fun | 22 => 29 | 23 => 35 | 4 => 4 | n => n, fun | n => n⟩
theorem Ybad.laysSlE041_f5 : Go.Proofs.SlLaysE0.n41 Ybad.prog Ybad.laysSlE041_f5_ren := {
  mixed := by kernel_rfl
  f41 := ⟨Ybad.f5.name, by decide, Ybad.func5.trans (congrArg some (by kernel_rfl))⟩
  t4 := Ybad.underlying4
  a4 := Ybad.isAgg4
  z4 := Ybad.sizeOf4
  v4 := Ybad.zeroValue4
  t22 := Ybad.underlying29
  a22 := Ybad.isAgg29
  z22 := Ybad.sizeOf29
  v22 := Ybad.zeroValue29 }
open Go.RowKit Go.Lib in
/-- slices.Clone: "Clone returns a copy of the slice. The elements are copied using assignment, so this is a shallow clone. The result may have additional unused capacity. The result preserves the nilness of s.": OF A SLICE THAT IS NOT nil IT RETURNS A SLICE THAT IS NOT nil, OF THE SAME CELLS, IN MEMORY OF THE CALL's OWN ('ownsRow': the how-to's 6f); below the heap's size at the call all is as it was. (LAID AT THE INSTANCE 'slices.Clone[[]Op,Op]': no walk: one application.) -/
theorem Ybad.slices_Clone_f5 (i0 : TypeInfo) (z : Value) (size bytes : Nat) (hi : Ybad.prog.info? 35 = some i0) (hz0 : i0.zero = some z) (hz1 : i0.size = size) (hz2 : i0.bytes = bytes) (hzs : z.cells.size = size) (hsz : 0 < size) (z23 : ∀ w, (Go.sizeOf 35).run Ybad.prog w = .ok size w) (b off n c : Nat) (news : List Value) (w : World) (hl : news.length = n * size) (hn : n ≤ maxLen) (hbig : n * bytes ≤ 140737488355328) (hc : ∀ j u, news[j]? = some u → w.cell? ⟨b, off + j, none⟩ = some u) (h1 : ∀ u ∈ news, u.oneCell' = true) :
    Calls Ybad.prog 5 #[.slice (some ⟨b, off, none⟩) n c] w fun e w' => ∃ v', e = .returned v' ∧ w'.ownsRow w.heap.size 35 size v' n news ∧ v' ≠ .slice none 0 0 ∧ Below w.heap.size w w' := AnyE.slices_Clone Ybad.laysSlE041_f5 i0 z size bytes hi hz0 hz1 hz2 hzs hsz z23 b off n c news w hl hn hbig hc h1
end Go.Proofs
