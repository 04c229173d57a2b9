/- spec.Num of any value, NumberOf, Steps32: what is drawn as an argument. -/
import Derived.Test.YtggpaejlmfppoaaGreatWide3
import Derived.Test.YtggpaejlmfppoaaGreatIntVal
import Derived.Test.YtggpaejlmfppoaaGreatScal
namespace Go.Proofs.YtggpaejlmfppoaaGreat
open Go.RowKit Dig
set_option linter.unusedVariables false
set_option linter.unusedSimpArgs false
set_option maxRecDepth 100000

/-- a number's canonical bytes are not more than those that it was read from -/
theorem exists_cut (ms : List Nat) (h : ∀ x ∈ ms, x < 256) : ∃ k, k ≤ ms.length ∧ Bytes (ms.drop k) (bval ms) := by
  have key : ∀ n, ∀ j, j + n = ms.length → (∀ i, i < j → ms.getD i 0 = 0) → ∃ k, k ≤ ms.length ∧ Bytes (ms.drop k) (bval ms) := by
    intro n
    induction n with
    | zero => intro j hj hz; exact ⟨j, by omega, cut_bytes ms h j (by omega) hz (.inl (by omega))⟩
    | succ n ih =>
      intro j hj hz
      by_cases h0 : ms.getD j 0 = 0
      · refine ih (j + 1) (by omega) (fun i hi => ?_)
        rcases Nat.lt_or_ge i j with hlt | hge
        · exact hz i hlt
        · obtain rfl : i = j := by omega
          exact h0
      · exact ⟨j, by omega, cut_bytes ms h j (by omega) hz (.inr h0)⟩
  exact key ms.length 0 (by omega) (fun i hi => by omega)
theorem fitX_bval (ms : List Nat) (h : ∀ x ∈ ms, x < 256) (hl : ms.length ≤ 140737488355328) : FitX (bval ms) := by
  obtain ⟨k, hk, hb⟩ := exists_cut ms h
  exact fitX_bytes hb (by rw [List.length_drop]; omega)
/-- the integer of a sign and of any bytes -/
def rawI (n : Bool) (ms : List Nat) : Int := if n then -(bval ms : Int) else bval ms
theorem rawI_fit (n : Bool) (ms : List Nat) (h : ∀ x ∈ ms, x < 256) (hl : ms.length ≤ 140737488355328) : FitX (rawI n ms).natAbs := by
  have : (rawI n ms).natAbs = bval ms := by unfold rawI; cases n <;> simp
  rw [this]; exact fitX_bval ms h hl

set_option maxHeartbeats 800000 in
theorem numRaw_any (k : Int) (n : Bool) (mag : Value) (u : Int) (s : ByteArray) (ka : Option Addr) (kn kc : Nat) (ms : List Nat) (w : World) (hms : ∀ x ∈ ms, x < 256) (hlen : ms.length ≤ 140737488355328) (hm : Sl w w.heap.size mag (ms.map bv)) :
    Calls Tryz.prog 28 #[.agg #[.int .i64 k, .bool n, mag, .int .u64 u, .string s, .slice ka kn kc]] w (SpPost (rawI n ms) w) := by
  obtain ⟨ma, mc, rfl, _⟩ := id hm
  obtain ⟨W0, hW0⟩ : ∃ W0, W0 = (w.alloc (.cells #[.int .i64 k, .bool n, .slice ma (ms.map bv).length mc, .int .u64 u, .string s, .slice ka kn kc] 27)).alloc (.cells #[.bool false, .slice none 0 0] 64) := ⟨_, rfl⟩
  have hb0 : Below w.heap.size w W0 := by rw [hW0]; exact ((Below.refl _ _).alloc (Nat.le_refl _) _).alloc (by simp) _
  have hsz : W0.heap.size = w.heap.size + 2 := by rw [hW0]; simp
  have hZ : Blk W0 (w.heap.size + 1) 64 [.bool false, .slice none 0 0] := by
    rw [hW0]
    have := Blk.new (w.alloc (.cells #[.int .i64 k, .bool n, .slice ma (ms.map bv).length mc, .int .u64 u, .string s, .slice ka kn kc] 27)) 64 [.bool false, .slice none 0 0]
    simpa using this
  have C : Hid (Calls Tryz.prog 36 #[.bool n, .slice ma (ms.map bv).length mc] W0 fun e w' => ∃ q p k c, e = .returned (.agg #[.bool q, .slice p k c]) ∧ Sp w' w'.heap.size (.agg #[.bool q, .slice p k c]) (rawI n ms) ∧ Below W0.heap.size W0 w') := Lib.hid (by
    refine (of_anyX n ms _ W0 hms hlen ((hm.below hb0).more hb0.size)).mono ?_
    intro e w' h
    obtain ⟨v, rfl, hs, hb⟩ := OfPost.sp h
    obtain ⟨q, p, k, c, rfl⟩ := hs.form
    exact ⟨q, p, k, c, rfl, hs, hb⟩)
  generalize rawI n ms = i at *
  have FIN : Hid (∀ q p k c w', Sp w' w'.heap.size (.agg #[.bool q, .slice p k c]) i → Below W0.heap.size W0 w' → (w'.cell? ⟨w.heap.size + 1, 0, none⟩ = some (.bool false) ∧ w'.cell? ⟨w.heap.size + 1, 1, none⟩ = some (.slice none 0 0) ∧ w'.frozen? ⟨w.heap.size + 1, 0, none⟩ = false ∧ w'.frozen? ⟨w.heap.size + 1, 1, none⟩ = false ∧ w.heap.size + 1 < w'.heap.size) ∧
      SpPost i w (.returned (.agg #[.bool q, .slice p k c])) ((w'.setCell ⟨w.heap.size + 1, 0, none⟩ (.bool q)).setCell ⟨w.heap.size + 1, 1, none⟩ (.slice p k c))) := Lib.hid (fun q p k c w' hs hb => by
    have hk := hZ.below hb (by omega)
    obtain ⟨s1, s2⟩ := Sp.store hs hk (by simp [bv]) (hb0.trans (hb.mono (by omega))) (by omega)
    exact ⟨⟨hk.cell 0 (by simp), hk.cell 1 (by simp), hk.free 0, hk.free 1, hk.lt⟩, _, rfl, s1, s2⟩)
  clear hm hms hb0 hsz hZ
  generalize (ms.map bv).length = L at *
  subst hW0
  go_enter Tryz.func28, Tryz.ntmps28
  go_wp2_with fail
  refine C.out.mono ?_
  rintro e w' ⟨q, p, k, c, rfl, hs, hb⟩
  obtain ⟨⟨c0, c1, f0, f1, hl⟩, hf⟩ := FIN.out q p k c w' hs hb
  have HF := Lib.hid hf
  clear hs hb hf
  go_wp2_with fail
  refine bodyPost_ret (v := .agg #[.bool q, .slice p k c]) (by simp [results, Tryz.results28, go_sem, c0, c1]) rfl ?_
  exact HF.out
/-- what fits in 64 bits, or 0 -/
def n64 (i : Int) : Int := if fits64 i then i else 0
theorem n64_bd (i : Int) : -9223372036854775808 ≤ n64 i ∧ n64 i ≤ 9223372036854775807 := by
  unfold n64
  by_cases h : fits64 i = true
  · rw [if_pos h]; unfold fits64 at h; simpa using h
  · rw [if_neg h]; omega
/-- what Steps32 makes of a value of a kind -/
def stepOf (k i : Int) : Scal := if k = 2 then .int (wrap32 (n64 i)) else if k = 4 then .str ByteArray.empty else .non
theorem wrap32_bd (n : Int) : -2147483648 ≤ wrap32 n ∧ wrap32 n ≤ 2147483647 := by
  unfold wrap32; omega
theorem wrap64_32 (n : Int) : wrap64 (wrap32 n) = wrap32 n := by
  obtain ⟨h1, h2⟩ := wrap32_bd n
  exact IntWalk.wrap64_in _ ⟨by omega, by omega⟩
def VsPost (x : Scal) (w : World) (e : Ending) (w' : World) : Prop := ∃ v, e = .returned v ∧ VaS w' w'.heap.size v x ∧ Below w.heap.size w w'
end Go.Proofs.YtggpaejlmfppoaaGreat
