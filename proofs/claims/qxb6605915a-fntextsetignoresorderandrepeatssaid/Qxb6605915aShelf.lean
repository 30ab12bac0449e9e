/- the shelf's contracts, laid at this program by the kit's own tool; its remarks are struck -/
import Derived.Shelf.Small.Strs
import Derived.Shelf.Strings.BuilderK
import Derived.Shelf.Strings.Builder2Cap
import Derived.Shelf.Slices.Clone
import Derived.Shelf.SlSortCmp.NoneTotal
import Derived.Test.Qxb6605915aProg
namespace Go.Proofs
open Go.Shelf
def Try.lays170_ren : Go.Shelf.Ren := ⟨fun | 170 => 67 | n => n, fun | 70 => 96 | 3 => 3 | 0 => 0 | 72 => 99 | 37 => 97 | 5 => 5 | n => n, fun | n => n⟩
theorem Try.lays170 : Go.Proofs.Lays.n170 Try.prog Try.lays170_ren := {
  mixed := by kernel_rfl
  f170 := Try.func67.trans (congrArg some (by kernel_rfl))
  t0 := Try.underlying0
  a0 := Try.isAgg0
  z0 := Try.sizeOf0
  v0 := Try.zeroValue0
  t3 := Try.underlying3
  a3 := Try.isAgg3
  z3 := Try.sizeOf3
  v3 := Try.zeroValue3
  t37 := Try.underlying97
  a37 := Try.isAgg97
  z37 := Try.sizeOf97
  v37 := Try.zeroValue97
  t70 := Try.underlying96
  a70 := Try.isAgg96
  z70 := Try.sizeOf96
  v70 := Try.zeroValue96
  t72 := Try.underlying99
  a72 := Try.isAgg99
  z72 := Try.sizeOf99
  v72 := Try.zeroValue99 }
def Try.lays169_ren : Go.Shelf.Ren := ⟨fun | 169 => 68 | n => n, fun | 70 => 96 | 9 => 9 | 0 => 0 | 72 => 99 | 37 => 97 | 127 => 110 | 3 => 3 | 5 => 5 | n => n, fun | n => n⟩
theorem Try.lays169 : Go.Proofs.Lays.n169 Try.prog Try.lays169_ren := {
  mixed := by kernel_rfl
  f169 := Try.func68.trans (congrArg some (by kernel_rfl))
  t0 := Try.underlying0
  a0 := Try.isAgg0
  z0 := Try.sizeOf0
  v0 := Try.zeroValue0
  t3 := Try.underlying3
  a3 := Try.isAgg3
  z3 := Try.sizeOf3
  v3 := Try.zeroValue3
  t9 := Try.underlying9
  a9 := Try.isAgg9
  z9 := Try.sizeOf9
  v9 := Try.zeroValue9
  t37 := Try.underlying97
  a37 := Try.isAgg97
  z37 := Try.sizeOf97
  v37 := Try.zeroValue97
  t70 := Try.underlying96
  a70 := Try.isAgg96
  z70 := Try.sizeOf96
  v70 := Try.zeroValue96
  t72 := Try.underlying99
  a72 := Try.isAgg99
  z72 := Try.sizeOf99
  v72 := Try.zeroValue99
  t127 := Try.underlying110
  a127 := Try.isAgg110
  z127 := Try.sizeOf110
  v127 := Try.zeroValue110 }
theorem Try.Builder_Extra_169 : Builder.Extra Try.prog Try.lays169_ren := {
  sizeBuilder := by kernel_rfl
  liesBuilder := by kernel_rfl
  t5 := Try.underlying5
  a5 := Try.isAgg5
  z5 := Try.sizeOf5
  v5 := Try.zeroValue5
  infoByte := by kernel_rfl
  cellsByte := by kernel_rfl
  sizeByte := by kernel_rfl
  neB5 := by decide }
def Try.lays165_ren : Go.Shelf.Ren := ⟨fun | 165 => 65 | 240 => 74 | 241 => 75 | 276 => 88 | 277 => 89 | n => n, fun | 70 => 96 | 3 => 3 | 0 => 0 | 4 => 4 | 9 => 9 | 20 => 20 | 72 => 99 | 37 => 97 | 164 => 122 | 5 => 5 | n => n, fun | n => n⟩
theorem Try.lays165 : Go.Proofs.Lays.n165 Try.prog Try.lays165_ren := {
  mixed := by kernel_rfl
  f165 := Try.func65.trans (congrArg some (by kernel_rfl))
  f240 := Try.func74.trans (congrArg some (by kernel_rfl))
  f241 := Try.func75.trans (congrArg some (by kernel_rfl))
  f276 := Try.func88.trans (congrArg some (by kernel_rfl))
  f277 := Try.func89.trans (congrArg some (by kernel_rfl))
  t0 := Try.underlying0
  a0 := Try.isAgg0
  z0 := Try.sizeOf0
  v0 := Try.zeroValue0
  t3 := Try.underlying3
  a3 := Try.isAgg3
  z3 := Try.sizeOf3
  v3 := Try.zeroValue3
  t4 := Try.underlying4
  a4 := Try.isAgg4
  z4 := Try.sizeOf4
  v4 := Try.zeroValue4
  t9 := Try.underlying9
  a9 := Try.isAgg9
  z9 := Try.sizeOf9
  v9 := Try.zeroValue9
  t20 := Try.underlying20
  a20 := Try.isAgg20
  z20 := Try.sizeOf20
  v20 := Try.zeroValue20
  t37 := Try.underlying97
  a37 := Try.isAgg97
  z37 := Try.sizeOf97
  v37 := Try.zeroValue97
  t70 := Try.underlying96
  a70 := Try.isAgg96
  z70 := Try.sizeOf96
  v70 := Try.zeroValue96
  t72 := Try.underlying99
  a72 := Try.isAgg99
  z72 := Try.sizeOf99
  v72 := Try.zeroValue99
  t164 := Try.underlying122
  a164 := Try.isAgg122
  z164 := Try.sizeOf122
  v164 := Try.zeroValue122 }
theorem Try.Builder_Extra_165 : Builder.Extra Try.prog Try.lays165_ren := {
  sizeBuilder := by kernel_rfl
  liesBuilder := by kernel_rfl
  t5 := Try.underlying5
  a5 := Try.isAgg5
  z5 := Try.sizeOf5
  v5 := Try.zeroValue5
  infoByte := by kernel_rfl
  cellsByte := by kernel_rfl
  sizeByte := by kernel_rfl
  neB5 := by decide }
def Try.lays106_ren : Go.Shelf.Ren := ⟨fun | 106 => 60 | 213 => 71 | 265 => 77 | n => n, fun | 9 => 9 | 3 => 3 | n => n, fun | n => n⟩
theorem Try.lays106 : Go.Proofs.Lays.n106 Try.prog Try.lays106_ren := {
  mixed := by kernel_rfl
  f106 := Try.func60.trans (congrArg some (by kernel_rfl))
  f213 := Try.func71.trans (congrArg some (by kernel_rfl))
  f265 := Try.func77.trans (congrArg some (by kernel_rfl))
  t3 := Try.underlying3
  a3 := Try.isAgg3
  z3 := Try.sizeOf3
  v3 := Try.zeroValue3
  t9 := Try.underlying9
  a9 := Try.isAgg9
  z9 := Try.sizeOf9
  v9 := Try.zeroValue9 }
open Go.RowKit in

theorem Try.strings_Compare (a b : ByteArray) (w : World) :
    Calls Try.prog 60 #[.string a, .string b] w fun e w' => e = .returned (.int .i64 (Lib.compareBytes a.data.toList b.data.toList)) ∧ w' = w := Any.strings_Compare Try.lays106 a b w
open Go.RowKit in

theorem Try.Builder_Len_f (B b : Nat) (bs : List Value) (w : World) (h : Lib.IsBuilderF 99 5 B b bs w) :
    Calls Try.prog 67 #[.pointer (some ⟨b, 0, none⟩)] w fun e w' => e = .returned (.int .i64 bs.length) ∧ w' = w := Any.Builder_Len_f Try.lays170 B b bs w h
open Go.RowKit in

theorem Try.Builder_String_any_k (B b : Nat) (l : List UInt8) (w : World) (h : Lib.IsBuilderF 99 5 B b (Lib.byteCells l) w) (hBw : B ≤ w.heap.size) :
    Calls Try.prog 68 #[.pointer (some ⟨b, 0, none⟩)] w fun e w' => e = .returned (.string ⟨l.toArray⟩) ∧ (Lib.IsBuilderF 99 5 B b (Lib.byteCells l) w' ∧ Below B w w' ∧ Lib.OthersKept 5 (some b) w w') := Any.Builder_String_any_k Try.lays169 Try.Builder_Extra_169 B b l w h hBw
open Go.RowKit in

theorem Try.Builder_Grow_fresh_cap (B b n : Nat) (w : World) (hB : B ≤ b) (hbk : w.heap[b]? = some (.cells #[.pointer none, .slice none 0 0] 99 (0, 0))) (hBw : B ≤ w.heap.size) (hn : n ≤ 281474976710656) :
    Calls Try.prog 65 #[.pointer (some ⟨b, 0, none⟩), .int .i64 n] w fun e w' => e = .returned (.tuple #[]) ∧ (Lib.BuilderAt 99 5 B b (.pointer (some ⟨b, 0, none⟩)) [] w' ∧ Below B w w') ∧ ∃ p cap, w'.cell? ⟨b, 1, none⟩ = some (.slice p 0 cap) ∧ n ≤ cap := Any.Builder_Grow_fresh_cap Try.lays165 Try.Builder_Extra_165 B b n w hB hbk hBw hn
def Try.laysNm216_ren : Go.Shelf.Ren := ⟨fun | 16 => 70 | n => n, fun | 24 => 39 | 9 => 9 | 4 => 4 | n => n, fun | n => n⟩
theorem Try.laysNm216 : Go.Proofs.Lays2.n16 Try.prog Try.laysNm216_ren := {
  mixed := by kernel_rfl
  f16 := Try.func70.trans (congrArg some (by kernel_rfl))
  t4 := Try.underlying4
  a4 := Try.isAgg4
  z4 := Try.sizeOf4
  v4 := Try.zeroValue4
  t9 := Try.underlying9
  a9 := Try.isAgg9
  z9 := Try.sizeOf9
  v9 := Try.zeroValue9
  t24 := Try.underlying39
  a24 := Try.isAgg39
  z24 := Try.sizeOf39
  v24 := Try.zeroValue39
  i9 := by kernel_rfl }
open Go.RowKit Go.Lib in

theorem Try.slices_Clone_string (b off n c : Nat) (zs : List ByteArray) (w : World) (hz : n ≤ zs.length) (hbig : n * 16 ≤ 140737488355328) (hc : ∀ j, j < zs.length → w.cell? ⟨b, off + j, none⟩ = some (.string (zs.getD j ByteArray.empty))) :
    Calls Try.prog 70 #[.slice (some ⟨b, off, none⟩) n c] w fun e w' => ∃ v', e = .returned v' ∧ w'.ownsRow w.heap.size 9 1 v' n ((zs.take n).map (Value.string)) ∧ v' ≠ .slice none 0 0 ∧ Below w.heap.size w w' := Any.slices_Clone_string Try.laysNm216 b off n c zs w hz hbig hc
open Go.RowKit Go.Lib in

theorem Try.slices_Clone_string_nil (n c : Nat) (w : World) :
    Calls Try.prog 70 #[.slice none n c] w fun e w' => e = .returned (.slice none 0 0) ∧ w' = w := Any.slices_Clone_string_nil Try.laysNm216 n c w
open Go.RowKit Go.Lib in

theorem Try.slices_Clone_string_zero (a : Addr) (c : Nat) (w : World) :
    Calls Try.prog 70 #[.slice (some a) 0 c] w fun e w' => ∃ v', e = .returned v' ∧ w'.ownsRow w.heap.size 9 1 v' 0 [] ∧ v' ≠ .slice none 0 0 ∧ Below w.heap.size w w' := Any.slices_Clone_string_zero Try.laysNm216 a c w
def Try.laysSlF6_f62_ren : Go.Shelf.Ren := ⟨fun | 6 => 62 | 15 => 73 | 14 => 72 | 28 => 86 | 29 => 87 | 20 => 78 | 21 => 79 | 22 => 80 | 23 => 81 | 24 => 82 | 25 => 83 | 26 => 84 | 27 => 85 | 46 => 98 | 47 => 99 | 48 => 100 | 49 => 101 | 50 => 102 | 57 => 106 | n => n, fun | 22 => 34 | 24 => 2 | 25 => 91 | 3 => 3 | 39 => 109 | 0 => 0 | 53 => 73 | 55 => 54 | 4 => 4 | 46 => 114 | 45 => 113 | 50 => 118 | 5 => 5 | 9 => 9 | 66 => 130 | 70 => 134 | 76 => 138 | 77 => 139 | n => n, fun | n => n⟩
theorem Try.laysSlF6_f62 : Go.Proofs.SlLaysF.n6 Try.prog Try.laysSlF6_f62_ren := {
  mixed := by kernel_rfl
  f6 := ⟨Try.f62.name, by decide, Try.func62.trans (congrArg some (by kernel_rfl))⟩
  f14 := ⟨Try.f72.name, by decide, Try.func72.trans (congrArg some (by kernel_rfl))⟩
  f15 := Try.func73.trans (congrArg some (by kernel_rfl))
  f20 := ⟨Try.f78.name, by decide, Try.func78.trans (congrArg some (by kernel_rfl))⟩
  f21 := ⟨Try.f79.name, by decide, Try.func79.trans (congrArg some (by kernel_rfl))⟩
  f22 := ⟨Try.f80.name, by decide, Try.func80.trans (congrArg some (by kernel_rfl))⟩
  f23 := ⟨Try.f81.name, by decide, Try.func81.trans (congrArg some (by kernel_rfl))⟩
  f24 := ⟨Try.f82.name, by decide, Try.func82.trans (congrArg some (by kernel_rfl))⟩
  f25 := ⟨Try.f83.name, by decide, Try.func83.trans (congrArg some (by kernel_rfl))⟩
  f26 := ⟨Try.f84.name, by decide, Try.func84.trans (congrArg some (by kernel_rfl))⟩
  f27 := ⟨Try.f85.name, by decide, Try.func85.trans (congrArg some (by kernel_rfl))⟩
  f28 := Try.func86.trans (congrArg some (by kernel_rfl))
  f29 := Try.func87.trans (congrArg some (by kernel_rfl))
  f46 := ⟨Try.f98.name, by decide, Try.func98.trans (congrArg some (by kernel_rfl))⟩
  f47 := Try.func99.trans (congrArg some (by kernel_rfl))
  f48 := Try.func100.trans (congrArg some (by kernel_rfl))
  f49 := ⟨Try.f101.name, by decide, Try.func101.trans (congrArg some (by kernel_rfl))⟩
  f50 := ⟨Try.f102.name, by decide, Try.func102.trans (congrArg some (by kernel_rfl))⟩
  f57 := ⟨Try.f106.name, by decide, Try.func106.trans (congrArg some (by kernel_rfl))⟩
  t0 := Try.underlying0
  a0 := Try.isAgg0
  z0 := Try.sizeOf0
  v0 := Try.zeroValue0
  t3 := Try.underlying3
  a3 := Try.isAgg3
  z3 := Try.sizeOf3
  v3 := Try.zeroValue3
  t4 := Try.underlying4
  a4 := Try.isAgg4
  z4 := Try.sizeOf4
  v4 := Try.zeroValue4
  t5 := Try.underlying5
  a5 := Try.isAgg5
  z5 := Try.sizeOf5
  v5 := Try.zeroValue5
  t9 := Try.underlying9
  a9 := Try.isAgg9
  z9 := Try.sizeOf9
  v9 := Try.zeroValue9
  t22 := Try.underlying34
  a22 := Try.isAgg34
  z22 := Try.sizeOf34
  v22 := Try.zeroValue34
  a24 := Try.isAgg2
  z24 := Try.sizeOf2
  t25 := Try.underlying91
  a25 := Try.isAgg91
  z25 := Try.sizeOf91
  v25 := Try.zeroValue91
  t39 := Try.underlying109
  a39 := Try.isAgg109
  z39 := Try.sizeOf109
  v39 := Try.zeroValue109
  t45 := Try.underlying113
  a45 := Try.isAgg113
  z45 := Try.sizeOf113
  v45 := Try.zeroValue113
  t46 := Try.underlying114
  a46 := Try.isAgg114
  z46 := Try.sizeOf114
  v46 := Try.zeroValue114
  t50 := Try.underlying118
  a50 := Try.isAgg118
  z50 := Try.sizeOf118
  v50 := Try.zeroValue118
  t53 := Try.underlying73
  a53 := Try.isAgg73
  z53 := Try.sizeOf73
  v53 := Try.zeroValue73
  t55 := Try.underlying54
  a55 := Try.isAgg54
  z55 := Try.sizeOf54
  v55 := Try.zeroValue54
  t66 := Try.underlying130
  a66 := Try.isAgg130
  z66 := Try.sizeOf130
  v66 := Try.zeroValue130
  t70 := Try.underlying134
  a70 := Try.isAgg134
  z70 := Try.sizeOf134
  v70 := Try.zeroValue134
  t76 := Try.underlying138
  a76 := Try.isAgg138
  z76 := Try.sizeOf138
  v76 := Try.zeroValue138
  t77 := Try.underlying139
  a77 := Try.isAgg139
  z77 := Try.sizeOf139
  v77 := Try.zeroValue139 }
def Try.laysSlF6_f69_ren : Go.Shelf.Ren := ⟨fun | 6 => 69 | 15 => 73 | 14 => 76 | 28 => 86 | 29 => 87 | 20 => 90 | 21 => 91 | 22 => 92 | 23 => 93 | 24 => 94 | 25 => 95 | 26 => 96 | 27 => 97 | 46 => 103 | 47 => 99 | 48 => 100 | 49 => 104 | 50 => 105 | 57 => 107 | n => n, fun | 22 => 39 | 24 => 9 | 25 => 51 | 3 => 3 | 39 => 109 | 0 => 0 | 53 => 73 | 55 => 54 | 4 => 4 | 46 => 114 | 45 => 113 | 50 => 118 | 5 => 5 | 9 => 9 | 66 => 130 | 70 => 134 | 76 => 138 | 77 => 139 | n => n, fun | n => n⟩
theorem Try.laysSlF6_f69 : Go.Proofs.SlLaysF.n6 Try.prog Try.laysSlF6_f69_ren := {
  mixed := by kernel_rfl
  f6 := ⟨Try.f69.name, by decide, Try.func69.trans (congrArg some (by kernel_rfl))⟩
  f14 := ⟨Try.f76.name, by decide, Try.func76.trans (congrArg some (by kernel_rfl))⟩
  f15 := Try.func73.trans (congrArg some (by kernel_rfl))
  f20 := ⟨Try.f90.name, by decide, Try.func90.trans (congrArg some (by kernel_rfl))⟩
  f21 := ⟨Try.f91.name, by decide, Try.func91.trans (congrArg some (by kernel_rfl))⟩
  f22 := ⟨Try.f92.name, by decide, Try.func92.trans (congrArg some (by kernel_rfl))⟩
  f23 := ⟨Try.f93.name, by decide, Try.func93.trans (congrArg some (by kernel_rfl))⟩
  f24 := ⟨Try.f94.name, by decide, Try.func94.trans (congrArg some (by kernel_rfl))⟩
  f25 := ⟨Try.f95.name, by decide, Try.func95.trans (congrArg some (by kernel_rfl))⟩
  f26 := ⟨Try.f96.name, by decide, Try.func96.trans (congrArg some (by kernel_rfl))⟩
  f27 := ⟨Try.f97.name, by decide, Try.func97.trans (congrArg some (by kernel_rfl))⟩
  f28 := Try.func86.trans (congrArg some (by kernel_rfl))
  f29 := Try.func87.trans (congrArg some (by kernel_rfl))
  f46 := ⟨Try.f103.name, by decide, Try.func103.trans (congrArg some (by kernel_rfl))⟩
  f47 := Try.func99.trans (congrArg some (by kernel_rfl))
  f48 := Try.func100.trans (congrArg some (by kernel_rfl))
  f49 := ⟨Try.f104.name, by decide, Try.func104.trans (congrArg some (by kernel_rfl))⟩
  f50 := ⟨Try.f105.name, by decide, Try.func105.trans (congrArg some (by kernel_rfl))⟩
  f57 := ⟨Try.f107.name, by decide, Try.func107.trans (congrArg some (by kernel_rfl))⟩
  t0 := Try.underlying0
  a0 := Try.isAgg0
  z0 := Try.sizeOf0
  v0 := Try.zeroValue0
  t3 := Try.underlying3
  a3 := Try.isAgg3
  z3 := Try.sizeOf3
  v3 := Try.zeroValue3
  t4 := Try.underlying4
  a4 := Try.isAgg4
  z4 := Try.sizeOf4
  v4 := Try.zeroValue4
  t5 := Try.underlying5
  a5 := Try.isAgg5
  z5 := Try.sizeOf5
  v5 := Try.zeroValue5
  t9 := Try.underlying9
  a9 := Try.isAgg9
  z9 := Try.sizeOf9
  v9 := Try.zeroValue9
  t22 := Try.underlying39
  a22 := Try.isAgg39
  z22 := Try.sizeOf39
  v22 := Try.zeroValue39
  a24 := Try.isAgg9
  z24 := Try.sizeOf9
  t25 := Try.underlying51
  a25 := Try.isAgg51
  z25 := Try.sizeOf51
  v25 := Try.zeroValue51
  t39 := Try.underlying109
  a39 := Try.isAgg109
  z39 := Try.sizeOf109
  v39 := Try.zeroValue109
  t45 := Try.underlying113
  a45 := Try.isAgg113
  z45 := Try.sizeOf113
  v45 := Try.zeroValue113
  t46 := Try.underlying114
  a46 := Try.isAgg114
  z46 := Try.sizeOf114
  v46 := Try.zeroValue114
  t50 := Try.underlying118
  a50 := Try.isAgg118
  z50 := Try.sizeOf118
  v50 := Try.zeroValue118
  t53 := Try.underlying73
  a53 := Try.isAgg73
  z53 := Try.sizeOf73
  v53 := Try.zeroValue73
  t55 := Try.underlying54
  a55 := Try.isAgg54
  z55 := Try.sizeOf54
  v55 := Try.zeroValue54
  t66 := Try.underlying130
  a66 := Try.isAgg130
  z66 := Try.sizeOf130
  v66 := Try.zeroValue130
  t70 := Try.underlying134
  a70 := Try.isAgg134
  z70 := Try.sizeOf134
  v70 := Try.zeroValue134
  t76 := Try.underlying138
  a76 := Try.isAgg138
  z76 := Try.sizeOf138
  v76 := Try.zeroValue138
  t77 := Try.underlying139
  a77 := Try.isAgg139
  z77 := Try.sizeOf139
  v77 := Try.zeroValue139 }
def Try.laysSlF06_f62_ren : Go.Shelf.Ren := ⟨fun | 6 => 62 | 15 => 73 | 14 => 72 | 28 => 86 | 29 => 87 | 20 => 78 | 21 => 79 | 22 => 80 | 23 => 81 | 24 => 82 | 25 => 83 | 26 => 84 | 27 => 85 | 46 => 98 | 47 => 99 | 48 => 100 | 49 => 101 | 50 => 102 | 57 => 106 | n => n, fun | 22 => 34 | 24 => 2 | 25 => 91 | 3 => 3 | 39 => 109 | 0 => 0 | 53 => 73 | 55 => 54 | 4 => 4 | 46 => 114 | 45 => 113 | 50 => 118 | 5 => 5 | 9 => 9 | 66 => 130 | 70 => 134 | 76 => 138 | 77 => 139 | n => n, fun | n => n⟩
theorem Try.laysSlF06_f62 : Go.Proofs.SlLaysF0.n6 Try.prog Try.laysSlF06_f62_ren := {
  mixed := by kernel_rfl
  f6 := ⟨Try.f62.name, by decide, Try.func62.trans (congrArg some (by kernel_rfl))⟩
  f14 := ⟨Try.f72.name, by decide, Try.func72.trans (congrArg some (by kernel_rfl))⟩
  f15 := Try.func73.trans (congrArg some (by kernel_rfl))
  f20 := ⟨Try.f78.name, by decide, Try.func78.trans (congrArg some (by kernel_rfl))⟩
  f21 := ⟨Try.f79.name, by decide, Try.func79.trans (congrArg some (by kernel_rfl))⟩
  f22 := ⟨Try.f80.name, by decide, Try.func80.trans (congrArg some (by kernel_rfl))⟩
  f23 := ⟨Try.f81.name, by decide, Try.func81.trans (congrArg some (by kernel_rfl))⟩
  f24 := ⟨Try.f82.name, by decide, Try.func82.trans (congrArg some (by kernel_rfl))⟩
  f25 := ⟨Try.f83.name, by decide, Try.func83.trans (congrArg some (by kernel_rfl))⟩
  f26 := ⟨Try.f84.name, by decide, Try.func84.trans (congrArg some (by kernel_rfl))⟩
  f27 := ⟨Try.f85.name, by decide, Try.func85.trans (congrArg some (by kernel_rfl))⟩
  f28 := Try.func86.trans (congrArg some (by kernel_rfl))
  f29 := Try.func87.trans (congrArg some (by kernel_rfl))
  f46 := ⟨Try.f98.name, by decide, Try.func98.trans (congrArg some (by kernel_rfl))⟩
  f47 := Try.func99.trans (congrArg some (by kernel_rfl))
  f48 := Try.func100.trans (congrArg some (by kernel_rfl))
  f49 := ⟨Try.f101.name, by decide, Try.func101.trans (congrArg some (by kernel_rfl))⟩
  f50 := ⟨Try.f102.name, by decide, Try.func102.trans (congrArg some (by kernel_rfl))⟩
  f57 := ⟨Try.f106.name, by decide, Try.func106.trans (congrArg some (by kernel_rfl))⟩
  t0 := Try.underlying0
  a0 := Try.isAgg0
  z0 := Try.sizeOf0
  v0 := Try.zeroValue0
  t3 := Try.underlying3
  a3 := Try.isAgg3
  z3 := Try.sizeOf3
  v3 := Try.zeroValue3
  t4 := Try.underlying4
  a4 := Try.isAgg4
  z4 := Try.sizeOf4
  v4 := Try.zeroValue4
  t5 := Try.underlying5
  a5 := Try.isAgg5
  z5 := Try.sizeOf5
  v5 := Try.zeroValue5
  t9 := Try.underlying9
  a9 := Try.isAgg9
  z9 := Try.sizeOf9
  v9 := Try.zeroValue9
  t22 := Try.underlying34
  a22 := Try.isAgg34
  z22 := Try.sizeOf34
  v22 := Try.zeroValue34
  t25 := Try.underlying91
  a25 := Try.isAgg91
  z25 := Try.sizeOf91
  v25 := Try.zeroValue91
  t39 := Try.underlying109
  a39 := Try.isAgg109
  z39 := Try.sizeOf109
  v39 := Try.zeroValue109
  t45 := Try.underlying113
  a45 := Try.isAgg113
  z45 := Try.sizeOf113
  v45 := Try.zeroValue113
  t46 := Try.underlying114
  a46 := Try.isAgg114
  z46 := Try.sizeOf114
  v46 := Try.zeroValue114
  t50 := Try.underlying118
  a50 := Try.isAgg118
  z50 := Try.sizeOf118
  v50 := Try.zeroValue118
  t53 := Try.underlying73
  a53 := Try.isAgg73
  z53 := Try.sizeOf73
  v53 := Try.zeroValue73
  t55 := Try.underlying54
  a55 := Try.isAgg54
  z55 := Try.sizeOf54
  v55 := Try.zeroValue54
  t66 := Try.underlying130
  a66 := Try.isAgg130
  z66 := Try.sizeOf130
  v66 := Try.zeroValue130
  t70 := Try.underlying134
  a70 := Try.isAgg134
  z70 := Try.sizeOf134
  v70 := Try.zeroValue134
  t76 := Try.underlying138
  a76 := Try.isAgg138
  z76 := Try.sizeOf138
  v76 := Try.zeroValue138
  t77 := Try.underlying139
  a77 := Try.isAgg139
  z77 := Try.sizeOf139
  v77 := Try.zeroValue139 }
open Go.RowKit Go.Lib Go.Sort in

theorem Try.slices_SortFunc_none_f62 {α : Type} [Inhabited α] (p : Option Addr) (cap : Nat) (fv : Value) (w : World) :
    Calls Try.prog 62 #[.slice p 0 cap, fv] w fun e w' => e = .returned (.tuple #[]) ∧ w' = w := AnyF.slices_SortFunc_none Try.laysSlF06_f62 p cap fv w
def Try.laysSlF06_f69_ren : Go.Shelf.Ren := ⟨fun | 6 => 69 | 15 => 73 | 14 => 76 | 28 => 86 | 29 => 87 | 20 => 90 | 21 => 91 | 22 => 92 | 23 => 93 | 24 => 94 | 25 => 95 | 26 => 96 | 27 => 97 | 46 => 103 | 47 => 99 | 48 => 100 | 49 => 104 | 50 => 105 | 57 => 107 | n => n, fun | 22 => 39 | 24 => 9 | 25 => 51 | 3 => 3 | 39 => 109 | 0 => 0 | 53 => 73 | 55 => 54 | 4 => 4 | 46 => 114 | 45 => 113 | 50 => 118 | 5 => 5 | 9 => 9 | 66 => 130 | 70 => 134 | 76 => 138 | 77 => 139 | n => n, fun | n => n⟩
theorem Try.laysSlF06_f69 : Go.Proofs.SlLaysF0.n6 Try.prog Try.laysSlF06_f69_ren := {
  mixed := by kernel_rfl
  f6 := ⟨Try.f69.name, by decide, Try.func69.trans (congrArg some (by kernel_rfl))⟩
  f14 := ⟨Try.f76.name, by decide, Try.func76.trans (congrArg some (by kernel_rfl))⟩
  f15 := Try.func73.trans (congrArg some (by kernel_rfl))
  f20 := ⟨Try.f90.name, by decide, Try.func90.trans (congrArg some (by kernel_rfl))⟩
  f21 := ⟨Try.f91.name, by decide, Try.func91.trans (congrArg some (by kernel_rfl))⟩
  f22 := ⟨Try.f92.name, by decide, Try.func92.trans (congrArg some (by kernel_rfl))⟩
  f23 := ⟨Try.f93.name, by decide, Try.func93.trans (congrArg some (by kernel_rfl))⟩
  f24 := ⟨Try.f94.name, by decide, Try.func94.trans (congrArg some (by kernel_rfl))⟩
  f25 := ⟨Try.f95.name, by decide, Try.func95.trans (congrArg some (by kernel_rfl))⟩
  f26 := ⟨Try.f96.name, by decide, Try.func96.trans (congrArg some (by kernel_rfl))⟩
  f27 := ⟨Try.f97.name, by decide, Try.func97.trans (congrArg some (by kernel_rfl))⟩
  f28 := Try.func86.trans (congrArg some (by kernel_rfl))
  f29 := Try.func87.trans (congrArg some (by kernel_rfl))
  f46 := ⟨Try.f103.name, by decide, Try.func103.trans (congrArg some (by kernel_rfl))⟩
  f47 := Try.func99.trans (congrArg some (by kernel_rfl))
  f48 := Try.func100.trans (congrArg some (by kernel_rfl))
  f49 := ⟨Try.f104.name, by decide, Try.func104.trans (congrArg some (by kernel_rfl))⟩
  f50 := ⟨Try.f105.name, by decide, Try.func105.trans (congrArg some (by kernel_rfl))⟩
  f57 := ⟨Try.f107.name, by decide, Try.func107.trans (congrArg some (by kernel_rfl))⟩
  t0 := Try.underlying0
  a0 := Try.isAgg0
  z0 := Try.sizeOf0
  v0 := Try.zeroValue0
  t3 := Try.underlying3
  a3 := Try.isAgg3
  z3 := Try.sizeOf3
  v3 := Try.zeroValue3
  t4 := Try.underlying4
  a4 := Try.isAgg4
  z4 := Try.sizeOf4
  v4 := Try.zeroValue4
  t5 := Try.underlying5
  a5 := Try.isAgg5
  z5 := Try.sizeOf5
  v5 := Try.zeroValue5
  t9 := Try.underlying9
  a9 := Try.isAgg9
  z9 := Try.sizeOf9
  v9 := Try.zeroValue9
  t22 := Try.underlying39
  a22 := Try.isAgg39
  z22 := Try.sizeOf39
  v22 := Try.zeroValue39
  t25 := Try.underlying51
  a25 := Try.isAgg51
  z25 := Try.sizeOf51
  v25 := Try.zeroValue51
  t39 := Try.underlying109
  a39 := Try.isAgg109
  z39 := Try.sizeOf109
  v39 := Try.zeroValue109
  t45 := Try.underlying113
  a45 := Try.isAgg113
  z45 := Try.sizeOf113
  v45 := Try.zeroValue113
  t46 := Try.underlying114
  a46 := Try.isAgg114
  z46 := Try.sizeOf114
  v46 := Try.zeroValue114
  t50 := Try.underlying118
  a50 := Try.isAgg118
  z50 := Try.sizeOf118
  v50 := Try.zeroValue118
  t53 := Try.underlying73
  a53 := Try.isAgg73
  z53 := Try.sizeOf73
  v53 := Try.zeroValue73
  t55 := Try.underlying54
  a55 := Try.isAgg54
  z55 := Try.sizeOf54
  v55 := Try.zeroValue54
  t66 := Try.underlying130
  a66 := Try.isAgg130
  z66 := Try.sizeOf130
  v66 := Try.zeroValue130
  t70 := Try.underlying134
  a70 := Try.isAgg134
  z70 := Try.sizeOf134
  v70 := Try.zeroValue134
  t76 := Try.underlying138
  a76 := Try.isAgg138
  z76 := Try.sizeOf138
  v76 := Try.zeroValue138
  t77 := Try.underlying139
  a77 := Try.isAgg139
  z77 := Try.sizeOf139
  v77 := Try.zeroValue139 }
open Go.RowKit Go.Lib Go.Sort in

theorem Try.slices_SortFunc_none_f69 {α : Type} [Inhabited α] (p : Option Addr) (cap : Nat) (fv : Value) (w : World) :
    Calls Try.prog 69 #[.slice p 0 cap, fv] w fun e w' => e = .returned (.tuple #[]) ∧ w' = w := AnyF.slices_SortFunc_none Try.laysSlF06_f69 p cap fv w
open Go.RowKit Go.Lib Go.Sort in

theorem Try.slices_SortFunc_total_f62 {α : Type} [Inhabited α] (enc : α → Value) (h1 : OneCell enc) (cf : α → α → Int) (hO : SWO (ltOf cf)) (g : Nat) (cb : Array Value) (blk off cap : Nat) (d : Array α) (w : World) (eg : ∀ args w, (callFunc g args).run Try.prog w = .ok (.enter g args) w) (hcmp : CmpLays1 Try.prog g cb enc cf blk off d.size w) (hH : Holds enc w blk off d) (hblk : blk < w.heap.size) (hsz : d.size < 4611686018427387904) (hT : ∀ x y, (ltOf cf) x y = false → (ltOf cf) y x = false → x = y) :
    Calls Try.prog 62 #[.slice (some ⟨blk, off, none⟩) d.size cap, .func (.func g) #[] cb] w fun e w' =>
      e = .returned (.tuple #[]) ∧ ∃ n os, w' = sortWorld enc w blk off n (d.toList.mergeSort fun x y => !(ltOf cf) y x).toArray os := Any.slices_SortFunc_total Try.laysSlF6_f62 enc h1 cf hO g cb blk off cap d w eg hcmp hH hblk hsz hT
open Go.RowKit Go.Lib Go.Sort in

theorem Try.slices_SortFunc_total_f69 {α : Type} [Inhabited α] (enc : α → Value) (h1 : OneCell enc) (cf : α → α → Int) (hO : SWO (ltOf cf)) (g : Nat) (cb : Array Value) (blk off cap : Nat) (d : Array α) (w : World) (eg : ∀ args w, (callFunc g args).run Try.prog w = .ok (.enter g args) w) (hcmp : CmpLays1 Try.prog g cb enc cf blk off d.size w) (hH : Holds enc w blk off d) (hblk : blk < w.heap.size) (hsz : d.size < 4611686018427387904) (hT : ∀ x y, (ltOf cf) x y = false → (ltOf cf) y x = false → x = y) :
    Calls Try.prog 69 #[.slice (some ⟨blk, off, none⟩) d.size cap, .func (.func g) #[] cb] w fun e w' =>
      e = .returned (.tuple #[]) ∧ ∃ n os, w' = sortWorld enc w blk off n (d.toList.mergeSort fun x y => !(ltOf cf) y x).toArray os := Any.slices_SortFunc_total Try.laysSlF6_f69 enc h1 cf hO g cb blk off cap d w eg hcmp hH hblk hsz hT
end Go.Proofs
