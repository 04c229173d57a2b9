/- scanSign of a text that begins with no sign. -/
import Derived.Test.YtbfgjaammmpcdaaGreatDoorRdr
namespace Go.Proofs.YtbfgjaammmpcdaaGreatDoor
open Go.RowKit Dig
set_option linter.unusedVariables false
set_option linter.unusedSimpArgs false
set_option maxRecDepth 100000

set_option maxHeartbeats 1600000 in
theorem scanSign_any (rb : Nat) (s : ByteArray) (x : Nat) (w : World) (h : Rdr w rb s 0) (hk : 0 < s.size) (hx : (s[0]'hk).toNat = x) (hs : s.size ≤ 1048576) (h1 : x ≠ 45) (h2 : x ≠ 43) :
    Calls Tryz.prog 110 #[.iface 99 (.pointer (some ⟨rb, 0, none⟩))] w fun e w' => e = .returned (.tuple #[.bool false, .nilIface]) ∧ Rdr w' rb s 0 ∧ Up (some rb) w w' := by
  have C1 := Lib.hid (readByte_yes rb s 0 x w h hk hx hs)
  have C2 := Lib.hid (fun w' (h' : Rdr w' rb s (0 + 1)) => unreadByte_any rb s 0 w' h' (by omega))
  have g1 : ((x : Int) == 45) = false := by rw [beq_eq_false_iff_ne]; omega
  have g2 : ((x : Int) == 43) = false := by rw [beq_eq_false_iff_ne]; omega
  clear h hx
  go_enter Tryz.func110, Tryz.ntmps110
  go_wp2_with fail
  refine C1.out.mono ?_
  rintro e w1 ⟨rfl, hr1, hu1⟩
  have HR1 := Lib.hid hr1
  have HU1 := Lib.hid hu1
  clear hr1 hu1 C1
  go_wp2_with fail
  refine (C2.out _ HR1.out).mono ?_
  rintro e w2 ⟨rfl, hr2, hu2⟩
  have HR2 := Lib.hid hr2
  have HU2 := Lib.hid (HU1.out.trans hu2)
  clear hr2 hu2 C2 HR1 HU1
  go_wp2_with fail
  go_ret2
  exact ⟨rfl, HR2.out, HU2.out⟩
end Go.Proofs.YtbfgjaammmpcdaaGreatDoor
