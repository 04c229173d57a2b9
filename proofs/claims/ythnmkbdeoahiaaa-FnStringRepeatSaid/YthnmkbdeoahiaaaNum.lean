/- spec.Num: the integer of a value. -/
import Derived.Test.YthnmkbdeoahiaaaSpecAdd2
import Derived.Test.YthnmkbdeoahiaaaImpl
namespace Go.Proofs.Ythnmkbdeoahiaaa
open Go.RowKit Dig
set_option linter.unusedVariables false
set_option linter.unusedSimpArgs false
set_option maxRecDepth 100000

set_option maxHeartbeats 800000 in
theorem num_any (i : Int) (v : Value) (w : World) (hv : Va w w.heap.size v i) (hi : i.natAbs < lim) :
    Calls Try.prog 29 #[v] w (SpPost i w) := by
  obtain ⟨mag, rfl, hm⟩ := id hv
  obtain ⟨n, hn⟩ : ∃ n, n = decide (i < 0) := ⟨_, rfl⟩
  rw [← hn] at hv ⊢
  obtain ⟨W0, hW0⟩ : ∃ W0, W0 = (w.alloc (.cells #[.int .i64 2, .bool n, mag, .int .u64 0, .string ByteArray.empty, .slice none 0 0] 28)).alloc (.cells #[.bool false, .slice none 0 0] 24) := ⟨_, rfl⟩
  have hb0 : Below w.heap.size w W0 := by rw [hW0]; exact ((Below.refl _ _).alloc (Nat.le_refl _) _).alloc (by simp) _
  have hsz : W0.heap.size = w.heap.size + 2 := by rw [hW0]; simp
  have hZ : Blk W0 (w.heap.size + 1) 24 [.bool false, .slice none 0 0] := by
    rw [hW0]
    have := Blk.new (w.alloc (.cells #[.int .i64 2, .bool n, mag, .int .u64 0, .string ByteArray.empty, .slice none 0 0] 28)) 24 [.bool false, .slice none 0 0]
    simpa using this
  have C : Hid (Calls Try.prog 22 #[.bool n, mag] W0 fun e w' => ∃ q p k c, e = .returned (.agg #[.bool q, .slice p k c]) ∧ Sp w' w'.heap.size (.agg #[.bool q, .slice p k c]) i ∧ Below W0.heap.size W0 w') := Lib.hid (by
    refine (of_by n i.natAbs mag W0 ((hm.below hb0).more hb0.size) (by omega)).mono ?_
    rintro e w' ⟨v, rfl, hs, hb⟩
    have e : (if n = true then -(i.natAbs : Int) else (i.natAbs : Int)) = i := by
      rw [hn]; by_cases h : i < 0 <;> simp [h] <;> omega
    rw [e] at hs
    obtain ⟨q, p, k, c, rfl⟩ := hs.form
    exact ⟨q, p, k, c, rfl, hs, hb⟩)
  have FIN : Hid (∀ q p k c w', Sp w' w'.heap.size (.agg #[.bool q, .slice p k c]) i → Below W0.heap.size W0 w' → (w'.cell? ⟨w.heap.size + 1, 0, none⟩ = some (.bool false) ∧ w'.cell? ⟨w.heap.size + 1, 1, none⟩ = some (.slice none 0 0) ∧ w'.frozen? ⟨w.heap.size + 1, 0, none⟩ = false ∧ w'.frozen? ⟨w.heap.size + 1, 1, none⟩ = false ∧ w.heap.size + 1 < w'.heap.size) ∧
      SpPost i w (.returned (.agg #[.bool q, .slice p k c])) ((w'.setCell ⟨w.heap.size + 1, 0, none⟩ (.bool q)).setCell ⟨w.heap.size + 1, 1, none⟩ (.slice p k c))) := Lib.hid (fun q p k c w' hs hb => by
    have hk := hZ.below hb (by omega)
    obtain ⟨s1, s2⟩ := Sp.store hs hk (by simp [bv]) (hb0.trans (hb.mono (by omega))) (by omega)
    exact ⟨⟨hk.cell 0 (by simp), hk.cell 1 (by simp), hk.free 0, hk.free 1, hk.lt⟩, _, rfl, s1, s2⟩)
  clear hv hm hn hb0 hsz hZ
  subst hW0
  go_enter Try.func29, Try.ntmps29
  go_wp2_with fail
  refine C.out.mono ?_
  rintro e w' ⟨q, p, k, c, rfl, hs, hb⟩
  obtain ⟨⟨c0, c1, f0, f1, hl⟩, hf⟩ := FIN.out q p k c w' hs hb
  have HF := Lib.hid hf
  clear hs hb hf
  go_wp2_with fail
  refine bodyPost_ret (v := .agg #[.bool q, .slice p k c]) (by simp [results, Try.results29, go_sem, c0, c1]) rfl ?_
  exact HF.out
end Go.Proofs.Ythnmkbdeoahiaaa
