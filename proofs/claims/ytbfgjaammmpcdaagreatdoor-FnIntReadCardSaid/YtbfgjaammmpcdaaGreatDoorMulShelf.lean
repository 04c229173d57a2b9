/- What the library's contracts ask of the program: its functions' and types' numbers (printed by a program, by their names). -/
import Derived.Shelf.Bits.Mul64
import Derived.Test.YtbfgjaammmpcdaaGreatDoorProg
namespace Go.Proofs.YtbfgjaammmpcdaaGreatDoor
open Go.Shelf
def ren212 : Go.Shelf.Ren := ⟨fun | 212 => 130 | 263 => 141 | 264 => 142 | n => n, fun | 46 => 67 | 51 => 127 | 53 => 25 | 146 => 160 | 148 => 162 | n => n, fun | n => n⟩
theorem lays212 : Go.Proofs.Lays.n212 Tryz.prog ren212 := {
  mixed := by kernel_rfl
  f212 := Tryz.func130.trans (congrArg some (by kernel_rfl))
  f263 := Tryz.func141.trans (congrArg some (by kernel_rfl))
  f264 := Tryz.func142.trans (congrArg some (by kernel_rfl))
  t46 := Tryz.underlying67
  a46 := Tryz.isAgg67
  z46 := Tryz.sizeOf67
  v46 := Tryz.zeroValue67
  t51 := Tryz.underlying127
  a51 := Tryz.isAgg127
  z51 := Tryz.sizeOf127
  v51 := Tryz.zeroValue127
  t53 := Tryz.underlying25
  a53 := Tryz.isAgg25
  z53 := Tryz.sizeOf25
  v53 := Tryz.zeroValue25
  t146 := Tryz.underlying160
  a146 := Tryz.isAgg160
  z146 := Tryz.sizeOf160
  v146 := Tryz.zeroValue160
  t148 := Tryz.underlying162
  a148 := Tryz.isAgg162
  z148 := Tryz.sizeOf162
  v148 := Tryz.zeroValue162 }
end Go.Proofs.YtbfgjaammmpcdaaGreatDoor
