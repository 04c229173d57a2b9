/- spec.escape: an escape is read as the bytes that it stands for. -/
import Derived.Test.YtoghnefgflkpdaaDoorUnq1
namespace Go.Proofs.YtoghnefgflkpdaaDoor
open Go.RowKit
set_option linter.unusedVariables false
set_option linter.unusedSimpArgs false
set_option maxRecDepth 1000000

theorem Below.dn {B : Nat} {w w' : World} (h : Below B w w') (n : Nat) : Below B w (w'.drewN n) := ⟨h.os, h.tape, h.output, h.size, h.block⟩
theorem escN_ne : ∀ k, k < 10 → ∀ j, j < k → (({ data := #[110, 114, 116, 97, 98, 102, 118, 34, 39, 92] } : ByteArray).data.toList.getD k 0).toNat ≠ (({ data := #[110, 114, 116, 97, 98, 102, 118, 34, 39, 92] } : ByteArray).data.toList.getD j 0).toNat := by decide
theorem getElem_getD (s : ByteArray) (j : Nat) (h : j < s.size) : s[j]'h = s.data.toList.getD j 0 := by
  rw [List.getD_eq_getElem?_getD, List.getElem?_eq_getElem (by simpa using h)]
  rfl

set_option maxHeartbeats 1600000 in
theorem escape_named (b : Bool) (k c : Nat) (s : ByteArray) (w : World) (hk : k < 10) (h2 : 2 ≤ s.size) (hs : s.size ≤ 140737488355328) (hc : (s[1]'(by omega)).toNat = c) (hcv : (escN.getD k 0).toNat = c) :
    Calls Tryd.prog 7 #[.string s, .bool b] w (EscOut [escV.getD k 0] 2 w) := by
  have hc256 : c < 256 := by rw [← hc]; exact UInt8.toNat_lt _
  have h2I : (2 : Int) ≤ (s.size : Int) := by omega
  have NE : Hid (∀ j (h : j < ({ data := #[110, 114, 116, 97, 98, 102, 118, 34, 39, 92] } : ByteArray).size), j < k → ((c : Int) == (((({ data := #[110, 114, 116, 97, 98, 102, 118, 34, 39, 92] } : ByteArray)[j]'h).toNat : Nat) : Int)) = false) := Lib.hid (by
    intro j h hj
    have := escN_ne k hk j hj
    rw [getElem_getD, beq_eq_false_iff_ne]
    have e : (({ data := #[110, 114, 116, 97, 98, 102, 118, 34, 39, 92] } : ByteArray).data.toList.getD k 0).toNat = c := hcv
    omega)
  have HCV := Lib.hid hcv
  clear hcv
  go_enter Tryd.func7, Tryd.ntmps7
  go_wp2_with fail
  go_loopw [6] (fun i wr => ∃ j m : Nat, j ≤ k ∧ i = .int .i64 j ∧ wr = w.drewN m) (fun i _ => k - (intOf i).toNat)
  case atStart => exact ⟨0, 0, Nat.zero_le _, rfl, rfl⟩
  case round =>
    obtain ⟨j, m, hj, rfl, rfl⟩ := hrel
    have hj10 : j < ({ data := #[110, 114, 116, 97, 98, 102, 118, 34, 39, 92] } : ByteArray).size := by show j < 10; omega
    have hjI : (j : Int) < 10 := by omega
    by_cases hlt : j < k
    · have hne := NE.out j hj10 hlt
      go_wp2_with fail
      go_quiet (fail)
      go_wp2_with fail
      go_roundw
      case rel => exact ⟨j + 1, _, by omega, by go_num, rfl⟩
      case measure => simp [intOf]; omega
    · obtain rfl : k = j := by omega
      have heq : ((c : Int) == (((({ data := #[110, 114, 116, 97, 98, 102, 118, 34, 39, 92] } : ByteArray)[k]'hj10).toNat : Nat) : Int)) = true := by
        have e : (({ data := #[110, 114, 116, 97, 98, 102, 118, 34, 39, 92] } : ByteArray).data.toList.getD k 0).toNat = c := HCV.out
        rw [getElem_getD, e]; simp
      have hj10' : k < ({ data := #[10, 13, 9, 7, 8, 12, 11, 34, 39, 92] } : ByteArray).size := by show k < 10; omega
      have FIN : Hid (∀ W : World, W.heap.size = w.heap.size → Below w.heap.size w W → EscOut [escV.getD k 0] 2 w (.returned (.tuple #[.slice (some ⟨w.heap.size, 0, none⟩) 1 1, .int .i64 2])) (W.alloc (.cells #[.int .u8 (((({ data := #[10, 13, 9, 7, 8, 12, 11, 34, 39, 92] } : ByteArray)[k]'hj10').toNat : Nat) : Int)] 5))) := Lib.hid (by
        intro W hW hb
        refine ⟨_, rfl, ?_, hb.alloc (by omega) _⟩
        rw [← hW]
        have hB : Blk (W.alloc (.cells #[.int .u8 (((({ data := #[10, 13, 9, 7, 8, 12, 11, 34, 39, 92] } : ByteArray)[k]'hj10').toNat : Nat) : Int)] 5)) W.heap.size 5 [.int .u8 (((({ data := #[10, 13, 9, 7, 8, 12, 11, 34, 39, 92] } : ByteArray)[k]'hj10').toNat : Nat) : Int)] := Blk.new W _ _
        have ev : cb [escV.getD k 0] = [.int .u8 (((({ data := #[10, 13, 9, 7, 8, 12, 11, 34, 39, 92] } : ByteArray)[k]'hj10').toNat : Nat) : Int)] := by
          rw [getElem_getD]; rfl
        rw [ev]
        exact Sl.mk (vs := [_]) (o := 0) (hB.rd (by simp) (fun i hi => by simp)) (Nat.le_refl _) hB.lt)
      clear NE HCV
      go_wp2_with fail
      go_quiet (fail)
      go_wp2_with fail
      go_ret2
      exact FIN.out _ (by simp) (Below.dn (Below.refl _ _) _)
/-- the digits of a number, the highest first, in the base 16: what has been read of them -/
theorem hexDigits_length : ∀ (n k : Nat), (Lib.hexDigits n k).length = k
  | _, 0 => rfl
  | n, k + 1 => by simp [Lib.hexDigits, hexDigits_length n k]
end Go.Proofs.YtoghnefgflkpdaaDoor
