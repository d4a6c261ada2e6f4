/-
  The library contracts of the guide's shelf that this dump uses, laid by the shelf's own tools (lay-shelf, lay-plain) and cut to those that the law wants: slices.Sort, Equal, Clone at []int; Reverse, Clone at []int16.
-/
import Derived.Shelf.Sort.Plain
import Derived.Shelf.Slices.Equal
import Derived.Ground.Names2Prog
import Derived.Shelf.Slices.Clone
import Derived.Shelf.Slices.In.SortNone
import Derived.Ground.SlgnProg
import Derived.Shelf.SlicesE.Reverse
import Derived.Shelf.SlicesE.Clone
import Derived.Test.YbulkbrkwProg
namespace Go.Proofs
open Go.Shelf
def Yba.lays189_ren : Go.Shelf.Ren := ⟨fun | 189 => 8 | 125 => 13 | 257 => 14 | 128 => 25 | 129 => 26 | 294 => 27 | 295 => 28 | 296 => 29 | 297 => 30 | 298 => 31 | 299 => 32 | 216 => 33 | 300 => 34 | 301 => 35 | 328 => 42 | 329 => 37 | 330 => 38 | 331 => 43 | 332 => 44 | 215 => 45 | 343 => 47 | n => n, fun | 28 => 27 | 3 => 3 | 46 => 41 | 0 => 0 | 51 => 54 | 53 => 56 | 4 => 4 | 183 => 47 | 182 => 46 | 131 => 37 | 5 => 5 | 9 => 9 | 218 => 62 | 222 => 66 | 228 => 72 | 229 => 73 | n => n, fun | n => n⟩
theorem Yba.lays189 : Go.Proofs.Lays.n189 Yba.prog Yba.lays189_ren := {
  mixed := by kernel_rfl
  f125 := Yba.func13.trans (congrArg some (by kernel_rfl))
  f128 := Yba.func25.trans (congrArg some (by kernel_rfl))
  f129 := Yba.func26.trans (congrArg some (by kernel_rfl))
  f189 := Yba.func8.trans (congrArg some (by kernel_rfl))
  f215 := Yba.func45.trans (congrArg some (by kernel_rfl))
  f216 := Yba.func33.trans (congrArg some (by kernel_rfl))
  f257 := Yba.func14.trans (congrArg some (by kernel_rfl))
  f294 := Yba.func27.trans (congrArg some (by kernel_rfl))
  f295 := Yba.func28.trans (congrArg some (by kernel_rfl))
  f296 := Yba.func29.trans (congrArg some (by kernel_rfl))
  f297 := Yba.func30.trans (congrArg some (by kernel_rfl))
  f298 := Yba.func31.trans (congrArg some (by kernel_rfl))
  f299 := Yba.func32.trans (congrArg some (by kernel_rfl))
  f300 := Yba.func34.trans (congrArg some (by kernel_rfl))
  f301 := Yba.func35.trans (congrArg some (by kernel_rfl))
  f328 := Yba.func42.trans (congrArg some (by kernel_rfl))
  f329 := Yba.func37.trans (congrArg some (by kernel_rfl))
  f330 := Yba.func38.trans (congrArg some (by kernel_rfl))
  f331 := Yba.func43.trans (congrArg some (by kernel_rfl))
  f332 := Yba.func44.trans (congrArg some (by kernel_rfl))
  f343 := Yba.func47.trans (congrArg some (by kernel_rfl))
  t0 := Yba.underlying0
  a0 := Yba.isAgg0
  z0 := Yba.sizeOf0
  v0 := Yba.zeroValue0
  t3 := Yba.underlying3
  a3 := Yba.isAgg3
  z3 := Yba.sizeOf3
  v3 := Yba.zeroValue3
  t4 := Yba.underlying4
  a4 := Yba.isAgg4
  z4 := Yba.sizeOf4
  v4 := Yba.zeroValue4
  t5 := Yba.underlying5
  a5 := Yba.isAgg5
  z5 := Yba.sizeOf5
  v5 := Yba.zeroValue5
  t9 := Yba.underlying9
  a9 := Yba.isAgg9
  z9 := Yba.sizeOf9
  v9 := Yba.zeroValue9
  t28 := Yba.underlying27
  a28 := Yba.isAgg27
  z28 := Yba.sizeOf27
  v28 := Yba.zeroValue27
  t46 := Yba.underlying41
  a46 := Yba.isAgg41
  z46 := Yba.sizeOf41
  v46 := Yba.zeroValue41
  t51 := Yba.underlying54
  a51 := Yba.isAgg54
  z51 := Yba.sizeOf54
  v51 := Yba.zeroValue54
  t53 := Yba.underlying56
  a53 := Yba.isAgg56
  z53 := Yba.sizeOf56
  v53 := Yba.zeroValue56
  t131 := Yba.underlying37
  a131 := Yba.isAgg37
  z131 := Yba.sizeOf37
  v131 := Yba.zeroValue37
  t182 := Yba.underlying46
  a182 := Yba.isAgg46
  z182 := Yba.sizeOf46
  v182 := Yba.zeroValue46
  t183 := Yba.underlying47
  a183 := Yba.isAgg47
  z183 := Yba.sizeOf47
  v183 := Yba.zeroValue47
  t218 := Yba.underlying62
  a218 := Yba.isAgg62
  z218 := Yba.sizeOf62
  v218 := Yba.zeroValue62
  t222 := Yba.underlying66
  a222 := Yba.isAgg66
  z222 := Yba.sizeOf66
  v222 := Yba.zeroValue66
  t228 := Yba.underlying72
  a228 := Yba.isAgg72
  z228 := Yba.sizeOf72
  v228 := Yba.zeroValue72
  t229 := Yba.underlying73
  a229 := Yba.isAgg73
  z229 := Yba.sizeOf73
  v229 := Yba.zeroValue73 }
open Go.Sort Go.RowKit in
theorem Yba.slices_Sort_int (blk off cap : Nat) (zs : List Int) (w : World) (hH : Holds (Value.int .i64) w blk off zs.toArray) (hblk : blk < w.heap.size) (hsz : zs.length < 4611686018427387904) :
    Calls Yba.prog 8 #[.slice (some ⟨blk, off, none⟩) zs.length cap] w fun e w' =>
      e = .returned (.tuple #[]) ∧ ∃ n os, w' = grow (putRow (Value.int .i64) (Sort.ahead w n) blk off (zs.mergeSort fun x y => decide (x ≤ y)).toArray) os := Any.slices_Sort_int Yba.lays189 blk off cap zs w hH hblk hsz
def Yba.lays111_ren : Go.Shelf.Ren := ⟨fun | 111 => 11 | n => n, fun | 28 => 27 | 3 => 3 | 4 => 4 | 0 => 0 | n => n, fun | n => n⟩
theorem Yba.lays111 : Go.Proofs.Lays.n111 Yba.prog Yba.lays111_ren := {
  mixed := by kernel_rfl
  f111 := Yba.func11.trans (congrArg some (by kernel_rfl))
  t0 := Yba.underlying0
  a0 := Yba.isAgg0
  z0 := Yba.sizeOf0
  v0 := Yba.zeroValue0
  t3 := Yba.underlying3
  a3 := Yba.isAgg3
  z3 := Yba.sizeOf3
  v3 := Yba.zeroValue3
  t4 := Yba.underlying4
  a4 := Yba.isAgg4
  z4 := Yba.sizeOf4
  v4 := Yba.zeroValue4
  t28 := Yba.underlying27
  a28 := Yba.isAgg27
  z28 := Yba.sizeOf27
  v28 := Yba.zeroValue27 }
open Go.RowKit Go.Lib in
theorem Yba.slices_Equal_int (b1 o1 n c b2 o2 m d : Nat) (xs ys : List Int) (w : World) (hx : n ≤ xs.length) (hy : m ≤ ys.length) (hbig : n ≤ 9223372036854775807) (hbig2 : m ≤ 9223372036854775807) (hc1 : ∀ j, j < xs.length → w.cell? ⟨b1, o1 + j, none⟩ = some (.int .i64 (xs.getD j 0))) (hc2 : ∀ j, j < ys.length → w.cell? ⟨b2, o2 + j, none⟩ = some (.int .i64 (ys.getD j 0))) :
    Calls Yba.prog 11 #[.slice (some ⟨b1, o1, none⟩) n c, .slice (some ⟨b2, o2, none⟩) m d] w fun e w' => e = .returned (.bool (xs.take n == ys.take m)) ∧ ∃ q, w' = w.drewN q := Any.slices_Equal_int Yba.lays111 b1 o1 n c b2 o2 m d xs ys w hx hy hbig hbig2 hc1 hc2
open Go.RowKit Go.Lib in
theorem Yba.slices_Equal_int_empty (a1 a2 : Option Addr) (c m d : Nat) (w : World) (hbig2 : m ≤ 9223372036854775807) :
    Calls Yba.prog 11 #[.slice a1 0 c, .slice a2 m d] w fun e w' => e = .returned (.bool (decide (m = 0))) ∧ w' = w := Any.slices_Equal_int_empty Yba.lays111 a1 a2 c m d w hbig2
def Yba.laysNm215_ren : Go.Shelf.Ren := ⟨fun | 15 => 7 | n => n, fun | 22 => 27 | 3 => 3 | 4 => 4 | n => n, fun | n => n⟩
theorem Yba.laysNm215 : Go.Proofs.Lays2.n15 Yba.prog Yba.laysNm215_ren := {
  mixed := by kernel_rfl
  f15 := Yba.func7.trans (congrArg some (by kernel_rfl))
  t3 := Yba.underlying3
  a3 := Yba.isAgg3
  z3 := Yba.sizeOf3
  v3 := Yba.zeroValue3
  t4 := Yba.underlying4
  a4 := Yba.isAgg4
  z4 := Yba.sizeOf4
  v4 := Yba.zeroValue4
  t22 := Yba.underlying27
  a22 := Yba.isAgg27
  z22 := Yba.sizeOf27
  v22 := Yba.zeroValue27
  i3 := by kernel_rfl }
open Go.RowKit Go.Lib in
theorem Yba.slices_Clone_int (b off n c : Nat) (zs : List Int) (w : World) (hz : n ≤ zs.length) (hbig : n * 8 ≤ 140737488355328) (hc : ∀ j, j < zs.length → w.cell? ⟨b, off + j, none⟩ = some (.int .i64 (zs.getD j 0))) :
    Calls Yba.prog 7 #[.slice (some ⟨b, off, none⟩) n c] w fun e w' => ∃ v', e = .returned v' ∧ w'.ownsRow w.heap.size 3 1 v' n ((zs.take n).map (Value.int .i64)) ∧ v' ≠ .slice none 0 0 ∧ Below w.heap.size w w' := Any.slices_Clone_int Yba.laysNm215 b off n c zs w hz hbig hc
open Go.RowKit Go.Lib in
theorem Yba.slices_Clone_int_nil (n c : Nat) (w : World) :
    Calls Yba.prog 7 #[.slice none n c] w fun e w' => e = .returned (.slice none 0 0) ∧ w' = w := Any.slices_Clone_int_nil Yba.laysNm215 n c w
open Go.RowKit Go.Lib in
theorem Yba.slices_Clone_int_zero (a : Addr) (c : Nat) (w : World) :
    Calls Yba.prog 7 #[.slice (some a) 0 c] w fun e w' => ∃ v', e = .returned v' ∧ w'.ownsRow w.heap.size 3 1 v' 0 [] ∧ v' ≠ .slice none 0 0 ∧ Below w.heap.size w w' := Any.slices_Clone_int_zero Yba.laysNm215 a c w
open Go.RowKit Go.Sort in
theorem Yba.slices_Sort_int_none (p : Option Addr) (cap : Nat) (w : World) :
    Calls Yba.prog 8 #[.slice p 0 cap] w fun e w' => e = .returned (.tuple #[]) ∧ w' = w := Any.slices_Sort_int_none Yba.lays189 p cap w
def Yba.laysSlE35_f6_ren : Go.Shelf.Ren := ⟨fun | 35 => 6 | n => n, fun | 22 => 22 | 23 => 24 | 3 => 3 | 4 => 4 | 0 => 0 | n => n, fun | n => n⟩
theorem Yba.laysSlE35_f6 : Go.Proofs.SlLaysE.n35 Yba.prog Yba.laysSlE35_f6_ren := {
  mixed := by kernel_rfl
  f35 := ⟨Yba.f6.name, by decide, Yba.func6.trans (congrArg some (by kernel_rfl))⟩
  t0 := Yba.underlying0
  a0 := Yba.isAgg0
  z0 := Yba.sizeOf0
  v0 := Yba.zeroValue0
  t3 := Yba.underlying3
  a3 := Yba.isAgg3
  z3 := Yba.sizeOf3
  v3 := Yba.zeroValue3
  t4 := Yba.underlying4
  a4 := Yba.isAgg4
  z4 := Yba.sizeOf4
  v4 := Yba.zeroValue4
  t22 := Yba.underlying22
  a22 := Yba.isAgg22
  z22 := Yba.sizeOf22
  v22 := Yba.zeroValue22
  a23 := Yba.isAgg24
  z23 := Yba.sizeOf24 }
open Go.RowKit Go.Lib Go.Sort in
theorem Yba.slices_Reverse {α : Type} [Inhabited α] (enc : α → Value) (h1 : OneCell enc) (blk off cap : Nat) (zs : List α) (w : World) (hH : Holds enc w blk off zs.toArray) (hsz : zs.length ≤ 9223372036854775807) :
    Calls Yba.prog 6 #[.slice (some ⟨blk, off, none⟩) zs.length cap] w fun e w' => e = .returned (.tuple #[]) ∧ ∃ n, w' = putRow enc (Sort.ahead w n) blk off zs.reverse.toArray := AnyE.slices_Reverse Yba.laysSlE35_f6 enc h1 blk off cap zs w hH hsz
open Go.RowKit Go.Lib Go.Sort in
theorem Yba.slices_Reverse_empty {α : Type} [Inhabited α] (a : Option Addr) (cap : Nat) (w : World) :
    Calls Yba.prog 6 #[.slice a 0 cap] w fun e w' => e = .returned (.tuple #[]) ∧ w' = w := AnyE.slices_Reverse_empty Yba.laysSlE35_f6 a cap w
def Yba.laysSlE041_f4_ren : Go.Shelf.Ren := ⟨fun | 41 => 4 | n => n, fun | 22 => 22 | 23 => 24 | 4 => 4 | n => n, fun | n => n⟩
theorem Yba.laysSlE041_f4 : Go.Proofs.SlLaysE0.n41 Yba.prog Yba.laysSlE041_f4_ren := {
  mixed := by kernel_rfl
  f41 := ⟨Yba.f4.name, by decide, Yba.func4.trans (congrArg some (by kernel_rfl))⟩
  t4 := Yba.underlying4
  a4 := Yba.isAgg4
  z4 := Yba.sizeOf4
  v4 := Yba.zeroValue4
  t22 := Yba.underlying22
  a22 := Yba.isAgg22
  z22 := Yba.sizeOf22
  v22 := Yba.zeroValue22 }
open Go.RowKit Go.Lib in
theorem Yba.slices_Clone_f4 (i0 : TypeInfo) (z : Value) (size bytes : Nat) (hi : Yba.prog.info? 24 = some i0) (hz0 : i0.zero = some z) (hz1 : i0.size = size) (hz2 : i0.bytes = bytes) (hzs : z.cells.size = size) (hsz : 0 < size) (z23 : ∀ w, (Go.sizeOf 24).run Yba.prog w = .ok size w) (b off n c : Nat) (news : List Value) (w : World) (hl : news.length = n * size) (hn : n ≤ maxLen) (hbig : n * bytes ≤ 140737488355328) (hc : ∀ j u, news[j]? = some u → w.cell? ⟨b, off + j, none⟩ = some u) (h1 : ∀ u ∈ news, u.oneCell' = true) :
    Calls Yba.prog 4 #[.slice (some ⟨b, off, none⟩) n c] w fun e w' => ∃ v', e = .returned v' ∧ w'.ownsRow w.heap.size 24 size v' n news ∧ v' ≠ .slice none 0 0 ∧ Below w.heap.size w w' := AnyE.slices_Clone Yba.laysSlE041_f4 i0 z size bytes hi hz0 hz1 hz2 hzs hsz z23 b off n c news w hl hn hbig hc h1
open Go.RowKit Go.Lib in
theorem Yba.slices_Clone_nil_f4 (n c : Nat) (w : World) :
    Calls Yba.prog 4 #[.slice none n c] w fun e w' => e = .returned (.slice none 0 0) ∧ w' = w := AnyE.slices_Clone_nil Yba.laysSlE041_f4 n c w
end Go.Proofs
