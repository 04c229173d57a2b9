/- strings.NewReader, ReadByte, UnreadByte. -/
import Derived.Test.YtbfgjaammmpcdaaGreatDoorMNew
import Derived.Test.YtbfgjaammmpcdaaGreatDoorSpecOf
import Derived.WalkSpells
import Derived.Deep.QuietTactic
import Derived.BigQuiet
namespace Go.Proofs.YtbfgjaammmpcdaaGreatDoor
open Go.RowKit Dig
set_option linter.unusedVariables false
set_option linter.unusedSimpArgs false
set_option maxRecDepth 100000

/-- a reader of a text, at the place k -/
def Rdr (w : World) (rb : Nat) (s : ByteArray) (k : Nat) : Prop := ∃ p : Int, Blk w rb 125 [.string s, .int .i64 (k : Int), .int .i64 p]
theorem Rdr.below {w w' : World} {rb : Nat} {s : ByteArray} {k : Nat} (h : Rdr w rb s k) (hb : Below w.heap.size w w') : Rdr w' rb s k := by
  obtain ⟨p, h⟩ := h
  exact ⟨p, h.below hb h.lt⟩
theorem Rdr.lt {w : World} {rb : Nat} {s : ByteArray} {k : Nat} (h : Rdr w rb s k) : rb < w.heap.size := by
  obtain ⟨p, h⟩ := h
  exact h.lt
theorem newReader_any (s : ByteArray) (w : World) : Calls Tryz.prog 66 #[.string s] w fun e w' => e = .returned (.pointer (some ⟨w.heap.size, 0, none⟩)) ∧ Rdr w' w.heap.size s 0 ∧ Below w.heap.size w w' := by
  have F : Hid (Rdr (w.alloc (.cells #[.string s, .int .i64 0, .int .i64 (-1)] 125)) w.heap.size s 0) := Lib.hid ⟨-1, by simpa using Blk.new w 125 [.string s, .int .i64 0, .int .i64 (-1)]⟩
  have B : Hid (Below w.heap.size w (w.alloc (.cells #[.string s, .int .i64 0, .int .i64 (-1)] 125))) := Lib.hid ((Below.refl _ _).alloc (Nat.le_refl _) _)
  go_enter Tryz.func66, Tryz.ntmps66
  go_wp2_with fail
  go_ret
  exact ⟨rfl, F.out, B.out⟩
theorem readByte_yes (rb : Nat) (s : ByteArray) (k x : Nat) (w : World) (h : Rdr w rb s k) (hk : k < s.size) (hx : (s[k]'hk).toNat = x) (hs : s.size ≤ 1048576) :
    Calls Tryz.prog 196 #[.pointer (some ⟨rb, 0, none⟩)] w fun e w' => e = .returned (.tuple #[.int .u8 (x : Int), .nilIface]) ∧ Rdr w' rb s (k + 1) ∧ Up (some rb) w w' := by
  obtain ⟨p, h⟩ := h
  have c0 := h.cell 0 (by simp)
  have c1 := h.cell 1 (by simp)
  have c2 := h.cell 2 (by simp)
  have f1 := h.free 1
  have f2 := h.free 2
  have lr := h.lt
  have F : Hid (∀ m, Rdr (((w.setCell ⟨rb, 2, none⟩ (.int .i64 (-1))).drewN m).setCell ⟨rb, 1, none⟩ (.int .i64 ((k : Int) + 1))) rb s (k + 1)) := Lib.hid (fun m => ⟨-1, by simpa using ((h.set 2 (.int .i64 (-1))).drewN m).set 1 (.int .i64 ((k : Int) + 1))⟩)
  have U : Hid (∀ m, Up (some rb) w (((w.setCell ⟨rb, 2, none⟩ (.int .i64 (-1))).drewN m).setCell ⟨rb, 1, none⟩ (.int .i64 ((k : Int) + 1)))) := Lib.hid (fun m => ((((Up.refl _ _).set 2 _).drewN m).set 1 _))
  have hi1 : (0 : Int) ≤ (k : Int) := by omega
  have hi2 : (k : Int) < (s.size : Int) := by omega
  have HX := Lib.hid hx
  clear h hx
  go_enter Tryz.func196, Tryz.ntmps196
  go_wp2_with fail
  go_quiet (fail)
  go_wp2_with fail
  go_quiet (fail)
  go_wp2_with fail
  go_ret2
  exact ⟨by rw [← HX.out]; rfl, F.out _, U.out _⟩
theorem readByte_no (rb : Nat) (s : ByteArray) (E : Value) (w : World) (h : Rdr w rb s s.size) (hE : w.cell? ⟨1, 0, none⟩ = some E) (hrb : rb ≠ 1) (hs : s.size ≤ 1048576) :
    Calls Tryz.prog 196 #[.pointer (some ⟨rb, 0, none⟩)] w fun e w' => e = .returned (.tuple #[.int .u8 0, E]) ∧ Rdr w' rb s s.size ∧ Up (some rb) w w' := by
  obtain ⟨p, h⟩ := h
  have c0 := h.cell 0 (by simp)
  have c1 := h.cell 1 (by simp)
  have c2 := h.cell 2 (by simp)
  have f1 := h.free 1
  have f2 := h.free 2
  have lr := h.lt
  have hne : ¬ rb = 1 := hrb
  have F : Hid (∀ m m2, Rdr (((w.setCell ⟨rb, 2, none⟩ (.int .i64 (-1))).drewN m).drewN m2) rb s s.size) := Lib.hid (fun m m2 => ⟨-1, by simpa using ((h.set 2 (.int .i64 (-1))).drewN m).drewN m2⟩)
  have U : Hid (∀ m m2, Up (some rb) w (((w.setCell ⟨rb, 2, none⟩ (.int .i64 (-1))).drewN m).drewN m2)) := Lib.hid (fun m m2 => ((((Up.refl _ _).set 2 _).drewN m).drewN m2))
  clear h
  go_enter Tryz.func196, Tryz.ntmps196
  go_wp2_with fail
  go_quiet (fail)
  go_wp2_with fail
  go_quiet (fail)
  go_wp2_with fail
  go_ret2
  exact ⟨rfl, F.out _ _, U.out _ _⟩
theorem unreadByte_any (rb : Nat) (s : ByteArray) (k : Nat) (w : World) (h : Rdr w rb s (k + 1)) (hk : k ≤ 1048576) :
    Calls Tryz.prog 197 #[.pointer (some ⟨rb, 0, none⟩)] w fun e w' => e = .returned .nilIface ∧ Rdr w' rb s k ∧ Up (some rb) w w' := by
  obtain ⟨p, h⟩ := h
  have c0 := h.cell 0 (by simp)
  have c1 := h.cell 1 (by simp)
  have c2 := h.cell 2 (by simp)
  have f1 := h.free 1
  have f2 := h.free 2
  have lr := h.lt
  have F : Hid (Rdr ((w.setCell ⟨rb, 2, none⟩ (.int .i64 (-1))).setCell ⟨rb, 1, none⟩ (.int .i64 (k : Int))) rb s k) := Lib.hid ⟨-1, by simpa using (h.set 2 (.int .i64 (-1))).set 1 (.int .i64 (k : Int))⟩
  have U : Hid (Up (some rb) w ((w.setCell ⟨rb, 2, none⟩ (.int .i64 (-1))).setCell ⟨rb, 1, none⟩ (.int .i64 (k : Int)))) := Lib.hid (((Up.refl _ _).set 2 _).set 1 _)
  clear h
  go_enter Tryz.func197, Tryz.ntmps197
  go_wp2_with fail
  go_ret
  exact ⟨rfl, F.out, U.out⟩
end Go.Proofs.YtbfgjaammmpcdaaGreatDoor
