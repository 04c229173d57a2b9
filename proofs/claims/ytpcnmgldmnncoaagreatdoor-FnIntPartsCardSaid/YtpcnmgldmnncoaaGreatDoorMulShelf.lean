/- What the library's contracts ask of the program: its functions' and types' numbers (printed by a program, by their names). -/
import Derived.Shelf.Bits.Mul64
import Derived.Test.YtpcnmgldmnncoaaGreatDoorProg
namespace Go.Proofs.YtpcnmgldmnncoaaGreatDoor
open Go.Shelf
def ren212 : Go.Shelf.Ren := ⟨fun | 212 => 114 | 263 => 121 | 264 => 122 | n => n, fun | 46 => 51 | 51 => 94 | 53 => 25 | 146 => 123 | 148 => 125 | n => n, fun | n => n⟩
theorem lays212 : Go.Proofs.Lays.n212 Tryz.prog ren212 := {
  mixed := by kernel_rfl
  f212 := Tryz.func114.trans (congrArg some (by kernel_rfl))
  f263 := Tryz.func121.trans (congrArg some (by kernel_rfl))
  f264 := Tryz.func122.trans (congrArg some (by kernel_rfl))
  t46 := Tryz.underlying51
  a46 := Tryz.isAgg51
  z46 := Tryz.sizeOf51
  v46 := Tryz.zeroValue51
  t51 := Tryz.underlying94
  a51 := Tryz.isAgg94
  z51 := Tryz.sizeOf94
  v51 := Tryz.zeroValue94
  t53 := Tryz.underlying25
  a53 := Tryz.isAgg25
  z53 := Tryz.sizeOf25
  v53 := Tryz.zeroValue25
  t146 := Tryz.underlying123
  a146 := Tryz.isAgg123
  z146 := Tryz.sizeOf123
  v146 := Tryz.zeroValue123
  t148 := Tryz.underlying125
  a148 := Tryz.isAgg125
  z148 := Tryz.sizeOf125
  v148 := Tryz.zeroValue125 }
end Go.Proofs.YtpcnmgldmnncoaaGreatDoor
