/- spec.place (the digit's place), spec.coded: the bytes that an escape stands for. -/
import Derived.Test.YtoghnefgflkpdaaDoorQuo
import Derived.Test.YtoghnefgflkpdaaDoorQMath
import Derived.Test.YtoghnefgflkpdaaDoorApp
import Derived.Shelf.Utf8.AppendRunePlain
namespace Go.Proofs.YtoghnefgflkpdaaDoor
open Go.RowKit
set_option linter.unusedVariables false
set_option linter.unusedSimpArgs false
set_option maxRecDepth 1000000

/-- bytes as cells -/
def cb (l : List UInt8) : List Value := l.map fun x => .int .u8 (x.toNat : Int)
theorem cb_length (l : List UInt8) : (cb l).length = l.length := by simp [cb]
/-- the bytes p in new memory, and how many of the literal's bytes they take -/
def EscOut (p : List UInt8) (n : Nat) (w : World) (e : Ending) (w' : World) : Prop :=
  ∃ v, e = .returned (.tuple #[v, .int .i64 (n : Int)]) ∧ Sl w' w'.heap.size v (cb p) ∧ Below w.heap.size w w'

theorem place_any (s p : ByteArray) (d : Nat) (w : World) (hp : p.size = 1) (hs : s.size ≤ 100) (hd : d < s.size) (hne : ∀ k, k < d → ((s.extract k (k + 1)).toList == p.toList) = false) (heq : ((s.extract d (d + 1)).toList == p.toList) = true) :
    Calls Tryd.prog 11 #[.string s, .string p] w fun e w' => e = .returned (.int .i64 (d : Int)) ∧ w' = w := by
  have Hne := Lib.hid hne
  have Heq := Lib.hid heq
  clear hne heq
  go_enter Tryd.func11, Tryd.ntmps11
  go_wp2
  go_loop [5] (fun i => ∃ k : Nat, k ≤ d ∧ i = .int .i64 k) (fun i => d - (intOf i).toNat)
  case atStart => exact ⟨0, Nat.zero_le _, rfl⟩
  case round =>
    obtain ⟨k, hk, rfl⟩ := hrel
    by_cases hlt : k < d
    · have h := Hne.out k hlt
      go_wp2
      go_round
      case rel => exact ⟨k + 1, by omega, by go_num⟩
      case measure => simp [intOf]; omega
    · obtain rfl : k = d := by omega
      have h := Heq.out
      go_wp2
      go_ret
      exact ⟨rfl, rfl⟩

theorem cb_one (n : Nat) (h : n < 256) : cb [n.toUInt8] = [.int .u8 (n : Int)] := by
  simp [cb]; omega

set_option maxHeartbeats 800000 in
theorem coded_one (n : Nat) (b : Bool) (z : Nat) (w : World) (hn : n < 256) (hb : n ≤ 127 ∨ b = true) :
    Calls Tryd.prog 12 #[.int .i64 (n : Int), .bool true, .bool b, .int .i64 (z : Int)] w (EscOut [n.toUInt8] z w) := by
  have hl1 : (n : Int) ≤ 255 := by omega
  have hl2 : (0 : Int) ≤ (n : Int) := by omega
  have fin : ∀ (w : World), EscOut [n.toUInt8] z w (.returned (.tuple #[.slice (some ⟨w.heap.size, 0, none⟩) 1 1, .int .i64 (z : Int)])) (w.alloc (.cells #[.int .u8 (n : Int)] 5)) := by
    intro w
    refine ⟨_, rfl, ?_, (Below.refl _ _).alloc (Nat.le_refl _) _⟩
    rw [cb_one n hn]
    have hB : Blk (w.alloc (.cells #[.int .u8 (n : Int)] 5)) w.heap.size 5 [.int .u8 (n : Int)] := Blk.new w _ [.int .u8 (n : Int)]
    exact Sl.mk (vs := [.int .u8 (n : Int)]) (o := 0) (hB.rd (by simp) (fun i hi => by simp)) (Nat.le_refl _) hB.lt
  have Fin := Lib.hid fin
  have d255 : decide ((255 : Int) < (n : Int)) = false := by simp; omega
  clear fin
  by_cases h : n ≤ 127
  · have hl3 : (n : Int) ≤ 127 := by omega
    clear hb
    go_enter Tryd.func12, Tryd.ntmps12
    go_wp2_with fail
    go_ret2
    exact Fin.out w
  · obtain rfl : b = true := by
      rcases hb with hb | hb
      · exact absurd hb h
      · exact hb
    have hl3 : (127 : Int) < (n : Int) := by omega
    clear hb h
    go_enter Tryd.func12, Tryd.ntmps12
    go_wp2_with fail
    go_ret2
    exact Fin.out w

theorem cb_enc (r : Nat) : Lib.runeCells (r : Int) = cb (Lib.encodeRune (r : Int)) := by
  unfold cb Lib.encodeRune Lib.runeCells
  rw [List.map_map]
  apply List.map_congr_left
  intro x hx
  have h : 0 ≤ x ∧ x < 256 := by
    unfold Lib.encodeRuneZ at hx
    repeat' split at hx
    all_goals (simp at hx; omega)
  simp only [Function.comp_def]
  congr 1
  have e : (x.toNat.toUInt8).toNat = x.toNat := by
    rw [Nat.toUInt8, UInt8.toNat_ofNat']
    exact Nat.mod_eq_of_lt (by omega)
  rw [e]; omega

set_option maxHeartbeats 800000 in
theorem coded_rune (r : Nat) (b : Bool) (z : Nat) (w : World) (h1 : r ≤ 1114111) (hv : r < 55296 ∨ 57343 < r) :
    Calls Tryd.prog 12 #[.int .i64 (r : Int), .bool false, .bool b, .int .i64 (z : Int)] w (EscOut (Lib.encodeRune (r : Int)) z w) := by
  obtain ⟨n, hn⟩ : ∃ n : Int, n = (r : Int) := ⟨_, rfl⟩
  obtain ⟨p, hp⟩ : ∃ p, p = Lib.encodeRune (r : Int) := ⟨_, rfl⟩
  rw [← hp]
  have C : ∀ W, W = w → Calls Tryd.prog 16 #[.slice none 0 0, .int .i32 n] W fun e w' => ∃ v, e = .returned v ∧ Sl w' w'.heap.size v (cb p) ∧ Below w.heap.size w w' := by
    rintro W rfl
    refine (Go.Proofs.Any.utf8_AppendRune_plain lays242 (by kernel_rfl) W.heap.size (.slice none 0 0) 0 [] n (by omega) (by omega) W (World.ownsRow_nil _ _ _ _) (by omega) (Nat.le_refl _)).mono ?_
    rintro e w' ⟨v, rfl, ho, o, hg⟩
    refine ⟨v, rfl, ?_, ?_⟩
    · rw [List.nil_append, Nat.zero_add, hn, cb_enc, ← hp] at ho
      exact Sl.of_own (by simpa using ho)
    · exact ((Below.refl _ _).alloc (Nat.le_refl _) o).grown hg (by simp) (by intro k hk; cases hk)
  have HC := Lib.hid C
  rw [← hn]
  have h0' : 0 ≤ n := by omega
  have h1' : n ≤ 1114111 := by omega
  have Hn := Lib.hid hn
  clear C hp
  by_cases hlo : n < 55296
  · clear hn hv h1
    go_enter Tryd.func12, Tryd.ntmps12
    go_wp2_with (go_at_call 16; refine (HC.out _ rfl).mono ?_; rintro e w1 ⟨v, rfl, hs, hb⟩)
    go_ret2
    exact ⟨v, rfl, hs, hb⟩
  · have hhi : 57344 ≤ n := by omega
    have d1 : decide (n < 57344) = false := by simp; omega
    clear hn hv h1 hlo
    go_enter Tryd.func12, Tryd.ntmps12
    go_wp2_with (go_at_call 16; refine (HC.out _ rfl).mono ?_; rintro e w1 ⟨v, rfl, hs, hb⟩)
    all_goals
      go_ret2
      exact ⟨v, rfl, hs, hb⟩
end Go.Proofs.YtoghnefgflkpdaaDoor
