/- spec.Same, SameList at two copies of scalars (printed by genpopsame.py). spec.ListMethod at "pop". laws.listDoes at "pop"; the law FnListPop's walk. -/
import Derived.Test.YtggpaejlmfppoaaGreatPopSpec
import Derived.Test.YtggpaejlmfppoaaGreatCmp3
import Derived.Deep.RegionHeld3
import Derived.Test.YtggpaejlmfppoaaGreatPopMeth1
import Derived.Test.YtggpaejlmfppoaaGreatPopImpl
namespace Go.Proofs.YtggpaejlmfppoaaGreat
open Go.RowKit Dig
set_option linter.unusedVariables false
set_option linter.unusedSimpArgs false
set_option maxRecDepth 100000

theorem sameNil_any (w : World) : Calls Tryz.prog 27 #[.slice none 0 0, .slice none 0 0] w fun e w' => e = .returned (.bool true) ∧ w' = w := by
  go_enter Tryz.func27, Tryz.ntmps27
  go_wp2_with fail
  go_loopw [5] (fun i wr => i = .int .i64 0 ∧ wr = w) (fun i _ => 3 - (intOf i).toNat)
  case atStart => exact ⟨rfl, rfl⟩
  case round =>
    obtain ⟨rfl, rfl⟩ := hrel
    go_wp2_with fail
    go_ret
    exact ⟨rfl, rfl⟩
def SmPost (w : World) (e : Ending) (w' : World) : Prop := e = .returned (.bool true) ∧ Below w.heap.size w w'
set_option maxHeartbeats 1600000 in
theorem same_non (w : World) : Calls Tryz.prog 9 #[.agg #[.int .i64 0, .bool false, .slice none 0 0, .int .u64 0, .string ByteArray.empty, .slice none 0 0], .agg #[.int .i64 0, .bool false, .slice none 0 0, .int .u64 0, .string ByteArray.empty, .slice none 0 0]] w (SmPost w) := by
  have HB : Hid (Below w.heap.size w ((w.alloc (.cells #[.int .i64 0, .bool false, .slice none 0 0, .int .u64 0, .string ByteArray.empty, .slice none 0 0] 27)).alloc (.cells #[.int .i64 0, .bool false, .slice none 0 0, .int .u64 0, .string ByteArray.empty, .slice none 0 0] 27))) := Lib.hid (((Below.refl _ _).alloc (Nat.le_refl _) _).alloc (by simp) _)
  go_enter Tryz.func9, Tryz.ntmps9
  go_wp2_with fail
  refine (sameNil_any _).mono ?_
  rintro e w1 ⟨rfl, rfl⟩
  go_wp2_with fail
  go_ret
  exact ⟨rfl, HB.out⟩
set_option maxHeartbeats 1600000 in
theorem same_boo (u : Int) (w : World) : Calls Tryz.prog 9 #[.agg #[.int .i64 1, .bool false, .slice none 0 0, .int .u64 u, .string ByteArray.empty, .slice none 0 0], .agg #[.int .i64 1, .bool false, .slice none 0 0, .int .u64 u, .string ByteArray.empty, .slice none 0 0]] w (SmPost w) := by
  have HB : Hid (Below w.heap.size w ((w.alloc (.cells #[.int .i64 1, .bool false, .slice none 0 0, .int .u64 u, .string ByteArray.empty, .slice none 0 0] 27)).alloc (.cells #[.int .i64 1, .bool false, .slice none 0 0, .int .u64 u, .string ByteArray.empty, .slice none 0 0] 27))) := Lib.hid (((Below.refl _ _).alloc (Nat.le_refl _) _).alloc (by simp) _)
  go_enter Tryz.func9, Tryz.ntmps9
  go_wp2_with fail
  go_ret
  exact ⟨rfl, HB.out⟩
set_option maxHeartbeats 1600000 in
theorem same_flt (u : Int) (w : World) : Calls Tryz.prog 9 #[.agg #[.int .i64 3, .bool false, .slice none 0 0, .int .u64 u, .string ByteArray.empty, .slice none 0 0], .agg #[.int .i64 3, .bool false, .slice none 0 0, .int .u64 u, .string ByteArray.empty, .slice none 0 0]] w (SmPost w) := by
  have HB : Hid (Below w.heap.size w ((w.alloc (.cells #[.int .i64 3, .bool false, .slice none 0 0, .int .u64 u, .string ByteArray.empty, .slice none 0 0] 27)).alloc (.cells #[.int .i64 3, .bool false, .slice none 0 0, .int .u64 u, .string ByteArray.empty, .slice none 0 0] 27))) := Lib.hid (((Below.refl _ _).alloc (Nat.le_refl _) _).alloc (by simp) _)
  go_enter Tryz.func9, Tryz.ntmps9
  go_wp2_with fail
  go_ret
  exact ⟨rfl, HB.out⟩
set_option maxHeartbeats 1600000 in
theorem same_str (s : ByteArray) (w : World) : Calls Tryz.prog 9 #[.agg #[.int .i64 4, .bool false, .slice none 0 0, .int .u64 0, .string s, .slice none 0 0], .agg #[.int .i64 4, .bool false, .slice none 0 0, .int .u64 0, .string s, .slice none 0 0]] w (SmPost w) := by
  have HB : Hid (Below w.heap.size w ((w.alloc (.cells #[.int .i64 4, .bool false, .slice none 0 0, .int .u64 0, .string s, .slice none 0 0] 27)).alloc (.cells #[.int .i64 4, .bool false, .slice none 0 0, .int .u64 0, .string s, .slice none 0 0] 27))) := Lib.hid (((Below.refl _ _).alloc (Nat.le_refl _) _).alloc (by simp) _)
  go_enter Tryz.func9, Tryz.ntmps9
  go_wp2_with fail
  refine (sameNil_any _).mono ?_
  rintro e w1 ⟨rfl, rfl⟩
  go_wp2_with fail
  go_ret
  exact ⟨rfl, HB.out⟩
set_option maxHeartbeats 1600000 in
theorem same_byt (s : ByteArray) (w : World) : Calls Tryz.prog 9 #[.agg #[.int .i64 5, .bool false, .slice none 0 0, .int .u64 0, .string s, .slice none 0 0], .agg #[.int .i64 5, .bool false, .slice none 0 0, .int .u64 0, .string s, .slice none 0 0]] w (SmPost w) := by
  have HB : Hid (Below w.heap.size w ((w.alloc (.cells #[.int .i64 5, .bool false, .slice none 0 0, .int .u64 0, .string s, .slice none 0 0] 27)).alloc (.cells #[.int .i64 5, .bool false, .slice none 0 0, .int .u64 0, .string s, .slice none 0 0] 27))) := Lib.hid (((Below.refl _ _).alloc (Nat.le_refl _) _).alloc (by simp) _)
  go_enter Tryz.func9, Tryz.ntmps9
  go_wp2_with fail
  refine (sameNil_any _).mono ?_
  rintro e w1 ⟨rfl, rfl⟩
  go_wp2_with fail
  go_ret
  exact ⟨rfl, HB.out⟩
theorem vaC_int {w : World} {B : Nat} {i : Int} {n n' : Bool} {a a' : Option Addr} {l c l' c' : Nat} {s s' : ByteArray} (h : VaC w B (.agg #[.int .i64 2, .bool n, .slice a l c, .int .u64 0, .string s, .slice none 0 0]) (.int i)) (h' : VaC w B (.agg #[.int .i64 2, .bool n', .slice a' l' c', .int .u64 0, .string s', .slice none 0 0]) (.int i)) : n = n' ∧ l = l' ∧ s = ByteArray.empty ∧ s' = ByteArray.empty := by
  obtain ⟨mag, e, ms, hm, a1, c1, hs, _⟩ := h
  obtain ⟨mag', e', ms', hm', a1', c1', hs', _⟩ := h'
  simp only [Value.agg.injEq, Array.mk.injEq, List.cons.injEq, Value.bool.injEq, Value.string.injEq, true_and, and_true] at e e'
  obtain ⟨h1, h2, h3⟩ := e
  obtain ⟨h1', h2', h3'⟩ := e'
  subst h2 h2'
  simp only [Value.slice.injEq] at hs hs'
  have := hm.unique hm'
  subst this
  exact ⟨h1.trans h1'.symm, hs.2.1.trans hs'.2.1.symm, h3, h3'⟩
set_option maxHeartbeats 3200000 in
theorem same_int (i : Int) (n : Bool) (a a' : Option Addr) (l c c' : Nat) (w : World) (h1 : VaC w w.heap.size (.agg #[.int .i64 2, .bool n, .slice a l c, .int .u64 0, .string ByteArray.empty, .slice none 0 0]) (.int i)) (h2 : VaC w w.heap.size (.agg #[.int .i64 2, .bool n, .slice a' l c', .int .u64 0, .string ByteArray.empty, .slice none 0 0]) (.int i)) (hi : i.natAbs < lim) : Calls Tryz.prog 9 #[.agg #[.int .i64 2, .bool n, .slice a l c, .int .u64 0, .string ByteArray.empty, .slice none 0 0], .agg #[.int .i64 2, .bool n, .slice a' l c', .int .u64 0, .string ByteArray.empty, .slice none 0 0]] w (SmPost w) := by
  have hb0 : Below w.heap.size w ((w.alloc (.cells #[.int .i64 2, .bool n, .slice a l c, .int .u64 0, .string ByteArray.empty, .slice none 0 0] 27)).alloc (.cells #[.int .i64 2, .bool n, .slice a' l c', .int .u64 0, .string ByteArray.empty, .slice none 0 0] 27)) := ((Below.refl _ _).alloc (Nat.le_refl _) _).alloc (by simp) _
  have hkA : Blk ((w.alloc (.cells #[.int .i64 2, .bool n, .slice a l c, .int .u64 0, .string ByteArray.empty, .slice none 0 0] 27)).alloc (.cells #[.int .i64 2, .bool n, .slice a' l c', .int .u64 0, .string ByteArray.empty, .slice none 0 0] 27)) w.heap.size 27 [.int .i64 2, .bool n, .slice a l c, .int .u64 0, .string ByteArray.empty, .slice none 0 0] := (Blk.new w 27 [.int .i64 2, .bool n, .slice a l c, .int .u64 0, .string ByteArray.empty, .slice none 0 0]).alloc _
  have hkB : Blk ((w.alloc (.cells #[.int .i64 2, .bool n, .slice a l c, .int .u64 0, .string ByteArray.empty, .slice none 0 0] 27)).alloc (.cells #[.int .i64 2, .bool n, .slice a' l c', .int .u64 0, .string ByteArray.empty, .slice none 0 0] 27)) (w.heap.size + 1) 27 [.int .i64 2, .bool n, .slice a' l c', .int .u64 0, .string ByteArray.empty, .slice none 0 0] := by
    have := Blk.new (w.alloc (.cells #[.int .i64 2, .bool n, .slice a l c, .int .u64 0, .string ByteArray.empty, .slice none 0 0] 27)) 27 [.int .i64 2, .bool n, .slice a' l c', .int .u64 0, .string ByteArray.empty, .slice none 0 0]
    simpa using this
  obtain ⟨W0, hW0⟩ : ∃ W0, W0 = ((w.alloc (.cells #[.int .i64 2, .bool n, .slice a l c, .int .u64 0, .string ByteArray.empty, .slice none 0 0] 27)).alloc (.cells #[.int .i64 2, .bool n, .slice a' l c', .int .u64 0, .string ByteArray.empty, .slice none 0 0] 27)) := ⟨_, rfl⟩
  rw [← hW0] at hb0 hkA hkB
  have NUM : ∀ W (x : Value) (a : Option Addr) (c : Nat), VaC w w.heap.size (.agg #[.int .i64 2, .bool n, .slice a l c, .int .u64 0, .string ByteArray.empty, .slice none 0 0]) (.int i) → Below W0.heap.size W0 W → Calls Tryz.prog 28 #[.agg #[.int .i64 2, .bool n, .slice a l c, .int .u64 0, .string ByteArray.empty, .slice none 0 0]] W (fun e w' => ∃ q p k d, e = .returned (.agg #[.bool q, .slice p k d]) ∧ Sp w' w'.heap.size (.agg #[.bool q, .slice p k d]) i ∧ Below W0.heap.size W0 w' ∧ Below W.heap.size W w') := by
    intro W x a c h hb
    have hbw := hb0.trans (hb.mono hb0.size)
    refine (numCel_any (.int i) n a l c ByteArray.empty W ((h.below hbw).more hbw.size) hi).mono ?_
    rintro e w' ⟨v, rfl, hs, hb1⟩
    obtain ⟨q, p, k, d, rfl⟩ := hs.form
    exact ⟨q, p, k, d, rfl, hs, hb.trans (hb1.mono hb.size), hb1⟩
  have CN1 := Lib.hid (fun W hb => NUM W .nilIface a c h1 hb)
  have CN2 := Lib.hid (fun W hb => NUM W .nilIface a' c' h2 hb)
  have CC : Hid (∀ v1 v2 W, Sp W W.heap.size v1 i → Sp W W.heap.size v2 i → Below W0.heap.size W0 W → Calls Tryz.prog 29 #[v1, v2] W (fun e w' => e = .returned (.int .i64 0) ∧ Below W0.heap.size W0 w')) := Lib.hid (fun v1 v2 W g1 g2 hb => (specCmp_any i i v1 v2 W g1 g2 hi hi).mono (by
    rintro e w' ⟨rfl, hb1⟩
    exact ⟨by simp [cmpI], hb.trans (hb1.mono hb.size)⟩))
  have KEEP : Hid (∀ W, Below W0.heap.size W0 W → (W.cell? ⟨w.heap.size, 0, none⟩ = some (.int .i64 2) ∧ W.cell? ⟨w.heap.size, 1, none⟩ = some (.bool n) ∧ W.cell? ⟨w.heap.size, 2, none⟩ = some (.slice a l c) ∧ W.cell? ⟨w.heap.size, 3, none⟩ = some (.int .u64 0) ∧ W.cell? ⟨w.heap.size, 4, none⟩ = some (.string ByteArray.empty) ∧ W.cell? ⟨w.heap.size, 5, none⟩ = some (.slice none 0 0)) ∧ (W.cell? ⟨w.heap.size + 1, 0, none⟩ = some (.int .i64 2) ∧ W.cell? ⟨w.heap.size + 1, 1, none⟩ = some (.bool n) ∧ W.cell? ⟨w.heap.size + 1, 2, none⟩ = some (.slice a' l c') ∧ W.cell? ⟨w.heap.size + 1, 3, none⟩ = some (.int .u64 0) ∧ W.cell? ⟨w.heap.size + 1, 4, none⟩ = some (.string ByteArray.empty) ∧ W.cell? ⟨w.heap.size + 1, 5, none⟩ = some (.slice none 0 0))) := Lib.hid (fun W hb => by
    have kA := hkA.below hb hkA.lt
    have kB := hkB.below hb hkB.lt
    exact ⟨⟨kA.cell 0 (by simp), kA.cell 1 (by simp), kA.cell 2 (by simp), kA.cell 3 (by simp), kA.cell 4 (by simp), kA.cell 5 (by simp)⟩, ⟨kB.cell 0 (by simp), kB.cell 1 (by simp), kB.cell 2 (by simp), kB.cell 3 (by simp), kB.cell 4 (by simp), kB.cell 5 (by simp)⟩⟩)
  have HB := Lib.hid (Below.refl W0.heap.size W0)
  have HD : Hid (Below W0.heap.size W0 W0.drew) := Lib.hid (below_drew1 (Below.refl _ _))
  have FIN : Hid (∀ W, Below W0.heap.size W0 W → Below w.heap.size w W) := Lib.hid (fun W hb => hb0.trans (hb.mono hb0.size))
  clear h1 h2 hi hb0 hkA hkB NUM
  subst hW0
  go_enter Tryz.func9, Tryz.ntmps9
  go_wp2_with fail
  go_region_held3 (fun W => (W.cell? ⟨w.heap.size, 0, none⟩ = some (.int .i64 2) ∧ W.cell? ⟨w.heap.size, 1, none⟩ = some (.bool n) ∧ W.cell? ⟨w.heap.size, 2, none⟩ = some (.slice a l c) ∧ W.cell? ⟨w.heap.size, 3, none⟩ = some (.int .u64 0) ∧ W.cell? ⟨w.heap.size, 4, none⟩ = some (.string ByteArray.empty) ∧ W.cell? ⟨w.heap.size, 5, none⟩ = some (.slice none 0 0)) ∧ (W.cell? ⟨w.heap.size + 1, 0, none⟩ = some (.int .i64 2) ∧ W.cell? ⟨w.heap.size + 1, 1, none⟩ = some (.bool n) ∧ W.cell? ⟨w.heap.size + 1, 2, none⟩ = some (.slice a' l c') ∧ W.cell? ⟨w.heap.size + 1, 3, none⟩ = some (.int .u64 0) ∧ W.cell? ⟨w.heap.size + 1, 4, none⟩ = some (.string ByteArray.empty) ∧ W.cell? ⟨w.heap.size + 1, 5, none⟩ = some (.slice none 0 0))) (with_reducible first | exact KEEP.out _ HB.out | exact KEEP.out _ (below_drew1 HB.out) | exact KEEP.out _ HD.out) ((first
    | (go_at_call 28; (first | (with_reducible refine (CN1.out _ (below_drew1 HB.out)).mono ?_) | (with_reducible refine (CN1.out _ HB.out).mono ?_)); rintro e w1 ⟨q1, p1, k1, d1, rfl, hs1, hb, hbx⟩; have HB := Lib.hid hb; have HS1 := Lib.hid hs1; clear hs1 hb hbx)
    | (go_at_call 28; (with_reducible refine (CN2.out _ HB.out).mono ?_); rintro e w2 ⟨q2, p2, k2, d2, rfl, hs2, hb, hbx⟩; have HB := Lib.hid hb; have HS2 := Lib.hid hs2; have HS1 := Lib.hid ((HS1.out.below hbx).more hbx.size); clear hs2 hb hbx)
    | (go_at_call 29; (with_reducible refine (CC.out _ _ _ HS1.out HS2.out HB.out).mono ?_); rintro e w3 ⟨rfl, hb⟩; have HB := Lib.hid hb; clear hb)))
  all_goals (go_wp2_with fail)
  all_goals go_ret
  all_goals exact ⟨rfl, FIN.out _ HB.out⟩
theorem same_any (x : Cel) (n n' : Bool) (a a' : Option Addr) (l c l' c' : Nat) (s s' : ByteArray) (w : World) (h1 : VaC w w.heap.size (.agg #[.int .i64 x.kind, .bool n, .slice a l c, .int .u64 x.bits, .string s, .slice none 0 0]) x) (h2 : VaC w w.heap.size (.agg #[.int .i64 x.kind, .bool n', .slice a' l' c', .int .u64 x.bits, .string s', .slice none 0 0]) x) (hx : x.ok) : Calls Tryz.prog 9 #[.agg #[.int .i64 x.kind, .bool n, .slice a l c, .int .u64 x.bits, .string s, .slice none 0 0], .agg #[.int .i64 x.kind, .bool n', .slice a' l' c', .int .u64 x.bits, .string s', .slice none 0 0]] w (SmPost w) := by
  cases x with
  | int i =>
    obtain ⟨rfl, rfl, rfl, rfl⟩ := vaC_int h1 h2
    exact same_int i n a a' l c c' w h1 h2 hx
  | non =>
    simp [VaC] at h1 h2
    obtain ⟨_, rfl, ⟨rfl, rfl, rfl⟩, _, rfl⟩ := h1
    obtain ⟨_, rfl, ⟨rfl, rfl, rfl⟩, _, rfl⟩ := h2
    simp only [Cel.kind, Cel.bits]
    exact same_non w
  | boo b =>
    simp [VaC] at h1 h2
    obtain ⟨_, rfl, ⟨rfl, rfl, rfl⟩, _, rfl⟩ := h1
    obtain ⟨_, rfl, ⟨rfl, rfl, rfl⟩, _, rfl⟩ := h2
    simp only [Cel.kind, Cel.bits]
    exact same_boo _ w
  | flt u =>
    simp [VaC] at h1 h2
    obtain ⟨_, rfl, ⟨rfl, rfl, rfl⟩, _, rfl⟩ := h1
    obtain ⟨_, rfl, ⟨rfl, rfl, rfl⟩, _, rfl⟩ := h2
    simp only [Cel.kind, Cel.bits]
    exact same_flt _ w
  | str t =>
    simp [VaC] at h1 h2
    obtain ⟨_, rfl, ⟨rfl, rfl, rfl⟩, _, rfl⟩ := h1
    obtain ⟨_, rfl, ⟨rfl, rfl, rfl⟩, _, rfl⟩ := h2
    simp only [Cel.kind, Cel.bits]
    exact same_str _ w
  | byt t =>
    simp [VaC] at h1 h2
    obtain ⟨_, rfl, ⟨rfl, rfl, rfl⟩, _, rfl⟩ := h1
    obtain ⟨_, rfl, ⟨rfl, rfl, rfl⟩, _, rfl⟩ := h2
    simp only [Cel.kind, Cel.bits]
    exact same_byt _ w
/-- two rows of copies of the same scalars -/
theorem sameList_any (xs : List Cel) (a a' : Option Addr) (n c n' c' : Nat) (w : World) (h1 : CeL w w.heap.size (.slice a n c) xs) (h2 : CeL w w.heap.size (.slice a' n' c') xs) (hok : ∀ x ∈ xs, x.ok) (hxl : xs.length ≤ 1048576) : Calls Tryz.prog 27 #[.slice a n c, .slice a' n' c'] w (SmPost w) := by
  obtain ⟨_, _, e1, _, _⟩ := id h1
  obtain ⟨_, _, e2, _, _⟩ := id h2
  simp only [Value.slice.injEq] at e1 e2
  have hn := e1.2.1
  have hn' := e2.2.1
  clear e1 e2
  obtain ⟨N, hN⟩ : ∃ N, N = xs.length := ⟨_, rfl⟩
  obtain rfl : n = N := by omega
  obtain rfl : n' = n := by omega
  have hnl : n' ≤ 1048576 := by omega
  have HN := Lib.hid hN
  have H1 := Lib.hid h1; have H2 := Lib.hid h2; have HOK := Lib.hid hok
  clear h1 h2 hok hn hn' hN hxl
  go_enter Tryz.func27, Tryz.ntmps27
  go_wp2_with fail
  go_loopw [5] (fun i wr => ∃ k : Nat, k ≤ n' ∧ i = .int .i64 (k : Int) ∧ Hid (Below w.heap.size w wr)) (fun i _ => n' - (intOf i).toNat)
  case atStart => exact ⟨0, Nat.zero_le _, rfl, Lib.hid (Below.refl _ _)⟩
  case round =>
    obtain ⟨k, hk, rfl, HB⟩ := hrel
    rcases Nat.lt_or_ge k n' with hlt | hge
    · obtain ⟨x, hx⟩ : ∃ x, xs[k]? = some x := ⟨_, List.getElem?_eq_getElem (by rw [← HN.out]; exact hlt)⟩
      have hne : xs ≠ [] := by intro h; rw [h] at hx; simp at hx
      obtain ⟨p1, q1, e1, _, hc1⟩ := (H1.out.below HB.out)
      obtain ⟨b1, o1, rfl, hb1, hcel1⟩ := hc1 hne
      obtain ⟨p2, q2, e2, _, hc2⟩ := (H2.out.below HB.out)
      obtain ⟨b2, o2, rfl, hb2, hcel2⟩ := hc2 hne
      simp only [Value.slice.injEq] at e1 e2
      obtain ⟨rfl, hz1, rfl⟩ := e1
      obtain ⟨rfl, hz2, rfl⟩ := e2
      clear hz1 hz2
      obtain ⟨n1, m1, l1, cc1, s1, ⟨g0, g1, g2, g3, g4, g5⟩, hva1⟩ := hcel1 k x hx
      obtain ⟨n2, m2, l2, cc2, s2, ⟨f0, f1, f2, f3, f4, f5⟩, hva2⟩ := hcel2 k x hx
      have lb1 : b1 < wr.heap.size := Nat.lt_of_lt_of_le hb1 HB.out.size
      have lb2 : b2 < wr.heap.size := Nat.lt_of_lt_of_le hb2 HB.out.size
      have C := Lib.hid (fun W (hb : Below wr.heap.size wr W) => same_any x n1 n2 m1 m2 l1 cc1 l2 cc2 s1 s2 W (((hva1.more HB.out.size).below hb).more hb.size) (((hva2.more HB.out.size).below hb).more hb.size) (HOK.out x (List.mem_of_getElem? hx)))
      have hi1 : (0 : Int) ≤ (k : Int) := by omega
      have hi2 : (k : Int) < (n' : Int) := by omega
      generalize x.kind = kd at *
      generalize x.bits = ub at *
      have HW0 := Lib.hid (Below.refl wr.heap.size wr)
      have HWD : Hid (Below wr.heap.size wr wr.drew) := Lib.hid (below_drew1 (Below.refl _ _))
      have KP : Hid (∀ W, Below wr.heap.size wr W → (W.cell? ⟨b1, o1 + k * 6, none⟩ = some (.int .i64 kd) ∧ W.cell? ⟨b1, o1 + k * 6 + 1, none⟩ = some (.bool n1) ∧ W.cell? ⟨b1, o1 + k * 6 + 2, none⟩ = some (.slice m1 l1 cc1) ∧ W.cell? ⟨b1, o1 + k * 6 + 3, none⟩ = some (.int .u64 ub) ∧ W.cell? ⟨b1, o1 + k * 6 + 4, none⟩ = some (.string s1) ∧ W.cell? ⟨b1, o1 + k * 6 + 5, none⟩ = some (.slice none 0 0)) ∧ (W.cell? ⟨b2, o2 + k * 6, none⟩ = some (.int .i64 kd) ∧ W.cell? ⟨b2, o2 + k * 6 + 1, none⟩ = some (.bool n2) ∧ W.cell? ⟨b2, o2 + k * 6 + 2, none⟩ = some (.slice m2 l2 cc2) ∧ W.cell? ⟨b2, o2 + k * 6 + 3, none⟩ = some (.int .u64 ub) ∧ W.cell? ⟨b2, o2 + k * 6 + 4, none⟩ = some (.string s2) ∧ W.cell? ⟨b2, o2 + k * 6 + 5, none⟩ = some (.slice none 0 0))) := Lib.hid (fun W hb => ⟨⟨(hb.cell (p := ⟨b1, o1 + k * 6, none⟩) lb1).trans g0, (hb.cell (p := ⟨b1, o1 + k * 6 + 1, none⟩) lb1).trans g1, (hb.cell (p := ⟨b1, o1 + k * 6 + 2, none⟩) lb1).trans g2, (hb.cell (p := ⟨b1, o1 + k * 6 + 3, none⟩) lb1).trans g3, (hb.cell (p := ⟨b1, o1 + k * 6 + 4, none⟩) lb1).trans g4, (hb.cell (p := ⟨b1, o1 + k * 6 + 5, none⟩) lb1).trans g5⟩, ⟨(hb.cell (p := ⟨b2, o2 + k * 6, none⟩) lb2).trans f0, (hb.cell (p := ⟨b2, o2 + k * 6 + 1, none⟩) lb2).trans f1, (hb.cell (p := ⟨b2, o2 + k * 6 + 2, none⟩) lb2).trans f2, (hb.cell (p := ⟨b2, o2 + k * 6 + 3, none⟩) lb2).trans f3, (hb.cell (p := ⟨b2, o2 + k * 6 + 4, none⟩) lb2).trans f4, (hb.cell (p := ⟨b2, o2 + k * 6 + 5, none⟩) lb2).trans f5⟩⟩)
      clear hcel1 hcel2 hc1 hc2 hva1 hva2 hx hb1 hb2 hne g0 g1 g2 g3 g4 g5 f0 f1 f2 f3 f4 f5
      go_wp2_with fail
      go_region_held3 (fun W => (W.cell? ⟨b1, o1 + k * 6, none⟩ = some (.int .i64 kd) ∧ W.cell? ⟨b1, o1 + k * 6 + 1, none⟩ = some (.bool n1) ∧ W.cell? ⟨b1, o1 + k * 6 + 2, none⟩ = some (.slice m1 l1 cc1) ∧ W.cell? ⟨b1, o1 + k * 6 + 3, none⟩ = some (.int .u64 ub) ∧ W.cell? ⟨b1, o1 + k * 6 + 4, none⟩ = some (.string s1) ∧ W.cell? ⟨b1, o1 + k * 6 + 5, none⟩ = some (.slice none 0 0)) ∧ (W.cell? ⟨b2, o2 + k * 6, none⟩ = some (.int .i64 kd) ∧ W.cell? ⟨b2, o2 + k * 6 + 1, none⟩ = some (.bool n2) ∧ W.cell? ⟨b2, o2 + k * 6 + 2, none⟩ = some (.slice m2 l2 cc2) ∧ W.cell? ⟨b2, o2 + k * 6 + 3, none⟩ = some (.int .u64 ub) ∧ W.cell? ⟨b2, o2 + k * 6 + 4, none⟩ = some (.string s2) ∧ W.cell? ⟨b2, o2 + k * 6 + 5, none⟩ = some (.slice none 0 0))) (with_reducible first | exact KP.out _ HW0.out | exact KP.out _ HWD.out | exact KP.out _ HW2.out) ((first | (go_at_call 9; (first | (with_reducible refine (C.out _ HWD.out).mono ?_) | (with_reducible refine (C.out _ HW0.out).mono ?_)); rintro e w2 ⟨rfl, hw2⟩; have HW2 := Lib.hid (HWD.out.trans (hw2.mono HWD.out.size)); clear hw2)))
      have HB2 := Lib.hid (HB.out.trans (HW2.out.mono HB.out.size))
      clear C
      go_wp2_with fail
      go_roundw
      case rel => first | exact ⟨k + 1, hlt, by simp, HB2⟩ | (refine ⟨_, ⟨k + 1, hlt, by simp, HB2⟩, rfl⟩) | ((repeat apply Exists.intro); exact ⟨⟨k + 1, hlt, by simp, HB2⟩, rfl⟩)
      case measure => simp [intOf]; omega
    · obtain rfl : k = n' := by omega
      go_wp2_with fail
      go_ret
      exact ⟨rfl, HB.out⟩
end Go.Proofs.YtggpaejlmfppoaaGreat

namespace Go.Proofs.YtggpaejlmfppoaaGreat
open Go.RowKit Dig
set_option linter.unusedVariables false
set_option linter.unusedSimpArgs false
set_option maxRecDepth 100000

theorem listPop_any (xs ats : List Cel) (a : Option Addr) (n c : Nat) (a2 : Option Addr) (n2 c2 : Nat) (w : World) (hv : CeL w w.heap.size (.slice a n c) xs) (hxl : xs.length ≤ 1048576) (hv2 : CeL w w.heap.size (.slice a2 n2 c2) ats) (hok2 : ∀ x ∈ ats, x.ok) (hl2 : ats.length ≤ 1) :
    Calls Tryz.prog 21 #[.agg #[.int .i64 6, .bool false, .slice none 0 0, .int .u64 0, .string ByteArray.empty, .slice a n c], .slice a2 n2 c2] w (LpPost xs ats a n c w) := by
  have hn2 : n2 = ats.length := by obtain ⟨_, _, e, _⟩ := id hv2; simp only [Value.slice.injEq] at e; exact e.2.1
  subst hn2
  match ats, hl2, hv2, hok2 with
  | [], _, hv2, _ => exact listPop_nil xs [] rfl a n c a2 c2 w hv hxl
  | [y], _, hv2, hok2 => exact listPop_one xs y a n c a2 c2 w hv hxl hv2 (hok2 y (by simp))
/-- the cells of a row, if it has any -/
theorem CeL.news {w : World} {a : Option Addr} {n c : Nat} {xs : List Cel} (h : CeL w w.heap.size (.slice a n c) xs) : ∃ news : List Value, news.length = n * 6 ∧ (∀ u ∈ news, u.oneCell' = true) ∧ ∀ W, Below w.heap.size w W → 0 < n → ∃ ad, a = some ad ∧ ∀ j u, news[j]? = some u → W.cell? (ad.add j) = some u := by
  have hn : n = xs.length := by obtain ⟨_, _, e, _⟩ := id h; simp only [Value.slice.injEq] at e; exact e.2.1
  by_cases hne : xs = []
  · refine ⟨[], by rw [hn, hne]; rfl, by simp, fun W _ h0 => ?_⟩
    rw [hn, hne] at h0; simp at h0
  · obtain ⟨b, o, c', ls, hv, _, hb, hL, hone, hc⟩ := h.loc (Nat.le_refl _) hne
    simp only [Value.slice.injEq] at hv
    obtain ⟨rfl, _, _⟩ := hv
    refine ⟨ls, by rw [hL.1, hn], hone, fun W hW _ => ⟨_, rfl, fun j u hj => ?_⟩⟩
    rw [add_zero_off, hW.cell (p := ⟨b, o + j, none⟩) hb]
    exact hc j u hj
set_option maxHeartbeats 6400000 in
theorem listMethod_any (xs ats : List Cel) (a : Option Addr) (n c : Nat) (a2 : Option Addr) (n2 c2 : Nat) (w : World) (hv : CeL w w.heap.size (.slice a n c) xs) (hxl : xs.length ≤ 1048576) (hv2 : CeL w w.heap.size (.slice a2 n2 c2) ats) (hok2 : ∀ x ∈ ats, x.ok) (hl2 : ats.length ≤ 1) :
    Calls Tryz.prog 7 #[.agg #[.int .i64 6, .bool false, .slice none 0 0, .int .u64 0, .string ByteArray.empty, .slice a n c], .string { data := #[112, 111, 112] }, .slice a2 n2 c2] w (LpPost xs ats a n c w) := by
  obtain ⟨iV, hiV, hzV, hsV, hbV⟩ := info_parts info26
  have hn : n = xs.length := by obtain ⟨_, _, e, _⟩ := id hv; simp only [Value.slice.injEq] at e; exact e.2.1
  have CP : Hid (∀ W, Below w.heap.size w W → Calls Tryz.prog 21 #[.agg #[.int .i64 6, .bool false, .slice none 0 0, .int .u64 0, .string ByteArray.empty, .slice a n c], .slice a2 n2 c2] W (LpPost xs ats a n c W)) := Lib.hid (fun W hb => listPop_any xs ats a n c a2 n2 c2 W ((hv.below hb).more hb.size) hxl ((hv2.below hb).more hb.size) hok2 hl2)
  have hnl : n ≤ 1048576 := by omega
  obtain ⟨news, hnw1, hnw2, hnw3⟩ := hv.news
  have hb0 : Below w.heap.size w ((((w.alloc (.cells #[.int .i64 6, .bool false, .slice none 0 0, .int .u64 0, .string ByteArray.empty, .slice a n c] 27)).alloc (.cells #[.int .i64 0, .bool false, .slice none 0 0, .int .u64 0, .string ByteArray.empty, .slice none 0 0] 27)).alloc (.cells #[.int .i64 0, .bool false, .slice none 0 0, .int .u64 0, .string ByteArray.empty, .slice none 0 0] 27)).alloc (.cells #[] 27)) := ((((Below.refl _ _).alloc (Nat.le_refl _) _).alloc (by simp) _).alloc (by simp; omega) _).alloc (by simp; omega) _
  have hk0 : Blk ((((w.alloc (.cells #[.int .i64 6, .bool false, .slice none 0 0, .int .u64 0, .string ByteArray.empty, .slice a n c] 27)).alloc (.cells #[.int .i64 0, .bool false, .slice none 0 0, .int .u64 0, .string ByteArray.empty, .slice none 0 0] 27)).alloc (.cells #[.int .i64 0, .bool false, .slice none 0 0, .int .u64 0, .string ByteArray.empty, .slice none 0 0] 27)).alloc (.cells #[] 27)) w.heap.size 27 [.int .i64 6, .bool false, .slice none 0 0, .int .u64 0, .string ByteArray.empty, .slice a n c] := (((Blk.new w 27 [.int .i64 6, .bool false, .slice none 0 0, .int .u64 0, .string ByteArray.empty, .slice a n c]).alloc _).alloc _).alloc _
  have hk1 : Blk ((((w.alloc (.cells #[.int .i64 6, .bool false, .slice none 0 0, .int .u64 0, .string ByteArray.empty, .slice a n c] 27)).alloc (.cells #[.int .i64 0, .bool false, .slice none 0 0, .int .u64 0, .string ByteArray.empty, .slice none 0 0] 27)).alloc (.cells #[.int .i64 0, .bool false, .slice none 0 0, .int .u64 0, .string ByteArray.empty, .slice none 0 0] 27)).alloc (.cells #[] 27)) (w.heap.size + 1) 27 zeroVal := by
    have := ((Blk.new (w.alloc (.cells #[.int .i64 6, .bool false, .slice none 0 0, .int .u64 0, .string ByteArray.empty, .slice a n c] 27)) 27 zeroVal).alloc (.cells #[.int .i64 0, .bool false, .slice none 0 0, .int .u64 0, .string ByteArray.empty, .slice none 0 0] 27)).alloc (.cells #[] 27)
    simpa [zeroVal] using this
  have hk2 : Blk ((((w.alloc (.cells #[.int .i64 6, .bool false, .slice none 0 0, .int .u64 0, .string ByteArray.empty, .slice a n c] 27)).alloc (.cells #[.int .i64 0, .bool false, .slice none 0 0, .int .u64 0, .string ByteArray.empty, .slice none 0 0] 27)).alloc (.cells #[.int .i64 0, .bool false, .slice none 0 0, .int .u64 0, .string ByteArray.empty, .slice none 0 0] 27)).alloc (.cells #[] 27)) (w.heap.size + 1 + 1) 27 zeroVal := by
    have := (Blk.new ((w.alloc (.cells #[.int .i64 6, .bool false, .slice none 0 0, .int .u64 0, .string ByteArray.empty, .slice a n c] 27)).alloc (.cells #[.int .i64 0, .bool false, .slice none 0 0, .int .u64 0, .string ByteArray.empty, .slice none 0 0] 27)) 27 zeroVal).alloc (.cells #[] 27)
    simpa [zeroVal] using this
  have hk3 : Blk ((((w.alloc (.cells #[.int .i64 6, .bool false, .slice none 0 0, .int .u64 0, .string ByteArray.empty, .slice a n c] 27)).alloc (.cells #[.int .i64 0, .bool false, .slice none 0 0, .int .u64 0, .string ByteArray.empty, .slice none 0 0] 27)).alloc (.cells #[.int .i64 0, .bool false, .slice none 0 0, .int .u64 0, .string ByteArray.empty, .slice none 0 0] 27)).alloc (.cells #[] 27)) (w.heap.size + 1 + 1 + 1) 27 [] := by
    have := Blk.new (((w.alloc (.cells #[.int .i64 6, .bool false, .slice none 0 0, .int .u64 0, .string ByteArray.empty, .slice a n c] 27)).alloc (.cells #[.int .i64 0, .bool false, .slice none 0 0, .int .u64 0, .string ByteArray.empty, .slice none 0 0] 27)).alloc (.cells #[.int .i64 0, .bool false, .slice none 0 0, .int .u64 0, .string ByteArray.empty, .slice none 0 0] 27)) 27 []
    simpa using this
  obtain ⟨W3, hW3⟩ : ∃ W3, W3 = (((w.alloc (.cells #[.int .i64 6, .bool false, .slice none 0 0, .int .u64 0, .string ByteArray.empty, .slice a n c] 27)).alloc (.cells #[.int .i64 0, .bool false, .slice none 0 0, .int .u64 0, .string ByteArray.empty, .slice none 0 0] 27)).alloc (.cells #[.int .i64 0, .bool false, .slice none 0 0, .int .u64 0, .string ByteArray.empty, .slice none 0 0] 27)).alloc (.cells #[] 27) := ⟨_, rfl⟩
  rw [← hW3] at hb0 hk0 hk1 hk2 hk3
  have OWN : Hid (W3.ownsRow w.heap.size 27 6 (.slice (some ⟨w.heap.size + 1 + 1 + 1, 0, none⟩) 0 0) 0 []) := Lib.hid (by
    refine ⟨by simp, .inr ⟨_, 0, #[], rfl, by omega, hk3, Nat.le_refl _, ?_, by simp, by simp⟩⟩
    simp [maxLen])
  have N1 := Lib.hid (hnw3 W3 hb0)
  have L1 := Lib.hid hnw1; have O1 := Lib.hid hnw2
  have HBs := Lib.hid hb0.size
  have AFT : Hid (∀ w4, W3.grownBy w4 (Value.slice (some ⟨w.heap.size + 1 + 1 + 1, 0, none⟩) 0 0).ownBlock → Hid (Below w.heap.size w w4) ∧ Blk w4 w.heap.size 27 [.int .i64 6, .bool false, .slice none 0 0, .int .u64 0, .string ByteArray.empty, .slice a n c] ∧ Hid (Blk w4 (w.heap.size + 1) 27 zeroVal) ∧ Hid (Blk w4 (w.heap.size + 1 + 1) 27 zeroVal)) := Lib.hid (fun w4 hg => by
    have hU : Up (some (w.heap.size + 1 + 1 + 1)) W3 w4 := hg
    exact ⟨Lib.hid (hb0.trans (hU.below hb0.size (fun j hj => by injection hj with hj; omega))), hk0.up hU (by intro e; injection e with e; omega), Lib.hid (hk1.up hU (by intro e; injection e with e; omega)), Lib.hid (hk2.up hU (by intro e; injection e with e; omega))⟩)
  have AGAIN : Hid (∀ w4 e W v0 v1 v2 v3 v4 v5 u0 u1 u2 u3 u4 u5, Hid (Below w.heap.size w w4) → Hid (Blk w4 (w.heap.size + 1) 27 zeroVal) → Hid (Blk w4 (w.heap.size + 1 + 1) 27 zeroVal) → LpPost xs ats a n c w4 e W → LpPost xs ats a n c w e ((((((((((((W.setCell ⟨w.heap.size + 1, 0, none⟩ (v0)).setCell ⟨w.heap.size + 1, 1, none⟩ (v1)).setCell ⟨w.heap.size + 1, 2, none⟩ (v2)).setCell ⟨w.heap.size + 1, 3, none⟩ (v3)).setCell ⟨w.heap.size + 1, 4, none⟩ (v4)).setCell ⟨w.heap.size + 1, 5, none⟩ (v5)).setCell ⟨w.heap.size + 1 + 1, 0, none⟩ (u0)).setCell ⟨w.heap.size + 1 + 1, 1, none⟩ (u1)).setCell ⟨w.heap.size + 1 + 1, 2, none⟩ (u2)).setCell ⟨w.heap.size + 1 + 1, 3, none⟩ (u3)).setCell ⟨w.heap.size + 1 + 1, 4, none⟩ (u4)).setCell ⟨w.heap.size + 1 + 1, 5, none⟩ (u5))) := Lib.hid (fun w4 e W v0 v1 v2 v3 v4 v5 u0 u1 u2 u3 u4 u5 h1 h2 h3 h => lp_again h h1.out h2.out h3.out (by omega) (by omega) (by omega) _ _ _ _ _ _ _ _ _ _ _ _)
  have hmx : 0 + n ≤ maxLen := by unfold maxLen; omega
  clear hv hv2 hok2 hl2 hxl hn hnw1 hnw2 hnw3 hb0 hk0 hk1 hk2 hk3
  go_enter Tryz.func7, Tryz.ntmps7
  go_wp2_with (at_builtin; refine wpList_append_all _ rfl (.tmp 17) (.tmp 19) 22 rfl w.heap.size 27 iV _ 6 88 Tryz.underlying22 hiV hzV hsV hbV rfl (by decide) (.slice (some ⟨w.heap.size + 1 + 1 + 1, 0, none⟩) 0 0) 0 [] rfl (hW3 ▸ OWN.out) a n c news rfl L1.out (hW3 ▸ N1.out) O1.out hmx (by omega) (hW3 ▸ HBs.out) ?_; intro v4 w4 _ hg4 _; obtain ⟨HB4, hk4, HK41, HK42⟩ := AFT.out w4 (hW3 ▸ hg4); have c00 := hk4.cell 0 (by simp); have c01 := hk4.cell 1 (by simp); have c02 := hk4.cell 2 (by simp); have c03 := hk4.cell 3 (by simp); have c04 := hk4.cell 4 (by simp); have c05 := hk4.cell 5 (by simp); have lt0 := hk4.lt; have CPC := CP.out w4 HB4.out; clear hg4 hk4)
  refine CPC.mono ?_
  rintro e w5 hlp
  have BL5 : Hid (Below w4.heap.size w4 w5) := Lib.hid hlp.1
  have hr1 := HK41.out.below BL5.out HK41.out.lt
  have hr2 := HK42.out.below BL5.out HK42.out.lt
  have HR1 := Lib.hid hr1; have HR2 := Lib.hid hr2
  have AG := Lib.hid (fun v0 v1 v2 v3 v4 v5 u0 u1 u2 u3 u4 u5 => AGAIN.out w4 e w5 v0 v1 v2 v3 v4 v5 u0 u1 u2 u3 u4 u5 HB4 HK41 HK42 hlp)
  obtain ⟨c10, c11, c12, c13, c14, c15⟩ : w5.cell? ⟨w.heap.size + 1, 0, none⟩ = some (.int .i64 0) ∧ w5.cell? ⟨w.heap.size + 1, 1, none⟩ = some (.bool false) ∧ w5.cell? ⟨w.heap.size + 1, 2, none⟩ = some (.slice none 0 0) ∧ w5.cell? ⟨w.heap.size + 1, 3, none⟩ = some (.int .u64 0) ∧ w5.cell? ⟨w.heap.size + 1, 4, none⟩ = some (.string ByteArray.empty) ∧ w5.cell? ⟨w.heap.size + 1, 5, none⟩ = some (.slice none 0 0) := ⟨hr1.cell 0 (by simp [zeroVal]), hr1.cell 1 (by simp [zeroVal]), hr1.cell 2 (by simp [zeroVal]), hr1.cell 3 (by simp [zeroVal]), hr1.cell 4 (by simp [zeroVal]), hr1.cell 5 (by simp [zeroVal])⟩
  obtain ⟨c20, c21, c22, c23, c24, c25⟩ : w5.cell? ⟨w.heap.size + 1 + 1, 0, none⟩ = some (.int .i64 0) ∧ w5.cell? ⟨w.heap.size + 1 + 1, 1, none⟩ = some (.bool false) ∧ w5.cell? ⟨w.heap.size + 1 + 1, 2, none⟩ = some (.slice none 0 0) ∧ w5.cell? ⟨w.heap.size + 1 + 1, 3, none⟩ = some (.int .u64 0) ∧ w5.cell? ⟨w.heap.size + 1 + 1, 4, none⟩ = some (.string ByteArray.empty) ∧ w5.cell? ⟨w.heap.size + 1 + 1, 5, none⟩ = some (.slice none 0 0) := ⟨hr2.cell 0 (by simp [zeroVal]), hr2.cell 1 (by simp [zeroVal]), hr2.cell 2 (by simp [zeroVal]), hr2.cell 3 (by simp [zeroVal]), hr2.cell 4 (by simp [zeroVal]), hr2.cell 5 (by simp [zeroVal])⟩
  obtain ⟨f10, f11, f12, f13, f14, f15⟩ : w5.frozen? ⟨w.heap.size + 1, 0, none⟩ = false ∧ w5.frozen? ⟨w.heap.size + 1, 1, none⟩ = false ∧ w5.frozen? ⟨w.heap.size + 1, 2, none⟩ = false ∧ w5.frozen? ⟨w.heap.size + 1, 3, none⟩ = false ∧ w5.frozen? ⟨w.heap.size + 1, 4, none⟩ = false ∧ w5.frozen? ⟨w.heap.size + 1, 5, none⟩ = false := ⟨hr1.free 0, hr1.free 1, hr1.free 2, hr1.free 3, hr1.free 4, hr1.free 5⟩
  obtain ⟨f20, f21, f22, f23, f24, f25⟩ : w5.frozen? ⟨w.heap.size + 1 + 1, 0, none⟩ = false ∧ w5.frozen? ⟨w.heap.size + 1 + 1, 1, none⟩ = false ∧ w5.frozen? ⟨w.heap.size + 1 + 1, 2, none⟩ = false ∧ w5.frozen? ⟨w.heap.size + 1 + 1, 3, none⟩ = false ∧ w5.frozen? ⟨w.heap.size + 1 + 1, 4, none⟩ = false ∧ w5.frozen? ⟨w.heap.size + 1 + 1, 5, none⟩ = false := ⟨hr2.free 0, hr2.free 1, hr2.free 2, hr2.free 3, hr2.free 4, hr2.free 5⟩
  have lt1 := hr1.lt; have lt2 := hr2.lt
  obtain ⟨A, B, p, l, cc, U, S, q, m, d, ok, hE⟩ : ∃ A B p l cc U S q m d ok, e = .returned (.tuple #[.agg #[.int .i64 A, .bool B, .slice p l cc, .int .u64 U, .string S, .slice none 0 0], .agg #[.int .i64 6, .bool false, .slice none 0 0, .int .u64 0, .string ByteArray.empty, .slice q m d], .bool ok]) := by
    rcases hlp.2 with ⟨k, x, n1, a1, l1, c1, s1, b, cc, _, _, rfl, _⟩ | ⟨_, rfl⟩
    · exact ⟨_, _, _, _, _, _, _, _, _, _, _, rfl⟩
    · exact ⟨_, _, _, _, _, _, _, _, _, _, _, rfl⟩
  clear hr1 hr2 hlp c00 c01 c02 c03 c04 c05 CPC CP
  subst hE
  go_wp2_with fail
  generalize hWE : World.setCell _ _ _ = WE
  obtain ⟨⟨z0, z1, z2, z3, z4, z5⟩, ⟨y0, y1, y2, y3, y4, y5⟩⟩ := twelve_set HR1.out HR2.out (by omega) hWE
  refine bodyPost_ret (v := .tuple #[.agg #[.int .i64 A, .bool B, .slice p l cc, .int .u64 U, .string S, .slice none 0 0], .agg #[.int .i64 6, .bool false, .slice none 0 0, .int .u64 0, .string ByteArray.empty, .slice q m d], .bool ok]) (by simp [results, Tryz.results7, go_sem, z0, z1, z2, z3, z4, z5, y0, y1, y2, y3, y4, y5] <;> rfl) rfl ?_
  rw [← hWE]
  exact AG.out _ _ _ _ _ _ _ _ _ _ _ _
end Go.Proofs.YtggpaejlmfppoaaGreat

namespace Go.Proofs.YtggpaejlmfppoaaGreat
open Go.RowKit Dig
set_option linter.unusedVariables false
set_option linter.unusedSimpArgs false
set_option maxRecDepth 100000

theorem RawL.below {w w' : World} {la : Option Addr} {ln : Nat} (h : RawL w la ln) (hb : Below w.heap.size w w') : RawL w' la ln := by
  rcases h with h | ⟨b, o, h1, h2⟩
  · exact .inl h
  · exact .inr ⟨b, o, h1, fun j hj => (h2 j hj).below hb⟩
theorem RawL.less {w : World} {la : Option Addr} {ln m : Nat} (h : RawL w la ln) (hm : m ≤ ln) : RawL w la m := by
  rcases h with h | ⟨b, o, h1, h2⟩
  · exact .inl (by omega)
  · exact .inr ⟨b, o, h1, fun j hj => h2 j (by omega)⟩
set_option maxHeartbeats 3200000 in
/-- what the impl has told of the list is what the reference has -/
theorem listDoes_yes (xs ats : List Cel) (k : Nat) (a : Option Addr) (n c : Nat) (a2 : Option Addr) (n2 c2 : Nat) (ob : Option Addr) (on oc : Nat) (w : World) (hv : CeL w w.heap.size (.slice a n c) xs) (hok : ∀ x ∈ xs, x.ok) (hxl : xs.length ≤ 1048576) (hv2 : CeL w w.heap.size (.slice a2 n2 c2) ats) (hok2 : ∀ x ∈ ats, x.ok) (hl2 : ats.length ≤ 1)
    (hp : popAt ats xs.length = some k) (ho : CeL w w.heap.size (.slice ob on oc) (xs.eraseIdx k)) :
    Calls Tryz.prog 8 #[.slice a n c, .string { data := #[112, 111, 112] }, .slice a2 n2 c2, .slice ob on oc, .bool true] w (SmPost w) := by
  have C1 : Hid (∀ W, Below w.heap.size w W → Calls Tryz.prog 7 #[.agg #[.int .i64 6, .bool false, .slice none 0 0, .int .u64 0, .string ByteArray.empty, .slice a n c], .string { data := #[112, 111, 112] }, .slice a2 n2 c2] W (LpPost xs ats a n c W)) := Lib.hid (fun W hb => listMethod_any xs ats a n c a2 n2 c2 W ((hv.below hb).more hb.size) hxl ((hv2.below hb).more hb.size) hok2 hl2)
  have C2 : Hid (∀ W b m cc, Below w.heap.size w W → CeL W W.heap.size (.slice b m cc) (xs.eraseIdx k) → Calls Tryz.prog 27 #[.slice ob on oc, .slice b m cc] W (SmPost W)) := Lib.hid (fun W b m cc hb hc => sameList_any (xs.eraseIdx k) ob b on oc m cc W ((ho.below hb).more hb.size) hc (fun x hx => hok x (List.mem_of_mem_eraseIdx hx)) (by have := List.length_eraseIdx_le xs k; omega))
  have HP := Lib.hid hp
  clear hv hok hxl hv2 hok2 hl2 ho hp
  go_enter Tryz.func8, Tryz.ntmps8
  go_wp2_with fail
  refine (C1.out _ (Below.refl _ _)).mono ?_
  rintro e w1 ⟨hb1, ⟨k', x, n1, a1, l1, c1, s1, b, cc, hp', hx, rfl, hva, hce, _⟩ | ⟨hp', _⟩⟩
  · obtain rfl : k' = k := by
      have := HP.out
      rw [hp'] at this
      injection this
    have HB1 := Lib.hid hb1
    have CS : Hid (∀ W, Below w1.heap.size w1 W → Calls Tryz.prog 27 #[.slice ob on oc, .slice b (xs.eraseIdx k').length cc] W (SmPost W)) := Lib.hid (fun W hW => C2.out W b _ cc (hb1.trans (hW.mono hb1.size)) ((hce.below hW).more hW.size))
    have HD : Hid (Below w1.heap.size w1 w1.drew) := Lib.hid (below_drew1 (Below.refl _ _))
    have HR : Hid (Below w1.heap.size w1 w1) := Lib.hid (Below.refl _ _)
    generalize x.kind = kd at *
    generalize x.bits = ub at *
    generalize (xs.eraseIdx k').length = M at *
    clear hb1 hp' hx hva hce C1 C2
    have HA : Hid (Below w1.heap.size w1 ((w1.alloc (.cells #[.int .i64 kd, .bool n1, .slice a1 l1 c1, .int .u64 ub, .string s1, .slice none 0 0] 27)).alloc (.cells #[.int .i64 6, .bool false, .slice none 0 0, .int .u64 0, .string ByteArray.empty, .slice b M cc] 27))) := Lib.hid (((Below.refl _ _).alloc (Nat.le_refl _) _).alloc (by simp) _)
    go_wp2_with fail
    refine (CS.out _ HA.out).mono ?_
    rintro e w2 ⟨rfl, hb2⟩
    have hb3 := HA.out.trans (hb2.mono HA.out.size)
    have HB2 := Lib.hid (HB1.out.trans (hb3.mono HB1.out.size))
    clear hb2 hb3 CS
    go_wp2_with fail
    go_ret
    exact ⟨rfl, HB2.out⟩
  · have := HP.out
    rw [hp'] at this
    cases this
set_option maxHeartbeats 3200000 in
theorem listDoes_no (xs ats : List Cel) (a : Option Addr) (n c : Nat) (a2 : Option Addr) (n2 c2 : Nat) (w : World) (hv : CeL w w.heap.size (.slice a n c) xs) (hok : ∀ x ∈ xs, x.ok) (hxl : xs.length ≤ 1048576) (hv2 : CeL w w.heap.size (.slice a2 n2 c2) ats) (hok2 : ∀ x ∈ ats, x.ok) (hl2 : ats.length ≤ 1)
    (hp : popAt ats xs.length = none) :
    Calls Tryz.prog 8 #[.slice a n c, .string { data := #[112, 111, 112] }, .slice a2 n2 c2, .slice none 0 0, .bool false] w (SmPost w) := by
  have C1 : Hid (∀ W, Below w.heap.size w W → Calls Tryz.prog 7 #[.agg #[.int .i64 6, .bool false, .slice none 0 0, .int .u64 0, .string ByteArray.empty, .slice a n c], .string { data := #[112, 111, 112] }, .slice a2 n2 c2] W (LpPost xs ats a n c W)) := Lib.hid (fun W hb => listMethod_any xs ats a n c a2 n2 c2 W ((hv.below hb).more hb.size) hxl ((hv2.below hb).more hb.size) hok2 hl2)
  have HP := Lib.hid hp
  clear hv hok hxl hv2 hok2 hl2 hp
  go_enter Tryz.func8, Tryz.ntmps8
  go_wp2_with fail
  refine (C1.out _ (Below.refl _ _)).mono ?_
  rintro e w1 ⟨hb1, ⟨k', x, n1, a1, l1, c1, s1, b, cc, hp', hx, rfl, hva, hce, _⟩ | ⟨_, rfl⟩⟩
  · have := HP.out
    rw [hp'] at this
    cases this
  · have HB1 := Lib.hid hb1
    clear hb1 C1
    go_wp2_with fail
    go_ret
    exact ⟨rfl, (HB1.out.alloc HB1.out.size _).alloc (by have := HB1.out.size; simp; omega) _⟩
set_option maxHeartbeats 3200000 in
theorem lawPop (la : Option Addr) (ln lc : Nat) (ta : Option Addr) (tn tc : Nat) (w : World) (h : RawL w la ln) (h2 : RawL w ta tn) (htc : tn ≤ tc) : Calls Tryz.prog 3 #[.slice la ln lc, .slice ta tn tc] w (SmPost w) := by
  by_cases hb : ln ≤ 2147483647
  · by_cases hb2 : tn ≤ 2147483647
    · have C1 : Hid (∀ W, Below w.heap.size w W → Calls Tryz.prog 5 #[.slice la ln lc] W fun e w' => ∃ (xs : List Cel) (a : Option Addr) (c m : Nat), m ≤ 12 ∧ Hid (m = xs.length) ∧ Hid (∀ x ∈ xs, x.ok) ∧ e = .returned (.slice a m c) ∧ Hid (CeL w' w'.heap.size (.slice a m c) xs) ∧ Hid (Below w.heap.size w w')) := Lib.hid (fun W hW => (listOf_any la ln lc W (h.below hW) hb).mono (by
        rintro e w' ⟨xs, a, c, hl, hok, rfl, hce, hb⟩
        exact ⟨xs, a, c, xs.length, by omega, Lib.hid rfl, Lib.hid hok, rfl, Lib.hid hce, Lib.hid (hW.trans (hb.mono hW.size))⟩))
      obtain ⟨tm, htm⟩ : ∃ tm, tm = min tn 1 := ⟨_, rfl⟩
      have C2 : Hid (∀ W, Below w.heap.size w W → Calls Tryz.prog 5 #[.slice ta tm tc] W fun e w' => ∃ (xs : List Cel) (a : Option Addr) (c m : Nat), m ≤ 1 ∧ Hid (m = xs.length) ∧ Hid (∀ x ∈ xs, x.ok) ∧ e = .returned (.slice a m c) ∧ Hid (CeL w' w'.heap.size (.slice a m c) xs) ∧ Hid (Below W.heap.size W w') ∧ Hid (Below w.heap.size w w')) := Lib.hid (fun W hW => (listOf_any ta tm tc W ((h2.less (by omega)).below hW) (by omega)).mono (by
        rintro e w' ⟨xs, a, c, hl, hok, rfl, hce, hb⟩
        exact ⟨xs, a, c, xs.length, by omega, Lib.hid rfl, Lib.hid hok, rfl, Lib.hid hce, Lib.hid hb, Lib.hid (hW.trans (hb.mono hW.size))⟩))
      have hmin : min (tn : Int) 1 = (tm : Int) := by omega
      have hq1 : (0 : Int) ≤ (tm : Int) := by omega
      have hq2 : (tm : Int) ≤ (tc : Int) := by omega
      have hq3 : ((tm : Int)).toNat = tm := by omega
      have HD : Hid (Below w.heap.size w w.drew) := Lib.hid (below_drew1 (Below.refl _ _))
      clear h h2 htm
      go_enter Tryz.func3, Tryz.ntmps3
      go_wp2_with fail
      go_region_held3 (fun _ => True) (trivial) ((first
        | (go_at_call 5; (with_reducible refine (C1.out _ HD.out).mono ?_); rintro e w1 ⟨xs, a, c, N, hN, HN, HOK, rfl, HCE, HB1⟩)
        | (go_at_call 5; (with_reducible refine (C2.out _ HB1.out).mono ?_); rintro e w2 ⟨ats, a2, c2, N2, hN2, HN2, HOK2, rfl, HCE2, HB12, HB2⟩)))
      all_goals
        have hce1 := (HCE.out.below HB12.out).more HB12.out.size
        have hxl : xs.length ≤ 1048576 := by have := HN.out; omega
        have hl2 : ats.length ≤ 1 := by have := HN2.out; omega
        have C3 := Lib.hid (implListPop_any xs ats a N c a2 N2 c2 w2 hce1 HOK.out hxl HCE2.out HOK2.out hl2)
        have LM : Hid (∀ W, Below w2.heap.size w2 W → Calls Tryz.prog 7 #[.agg #[.int .i64 6, .bool false, .slice none 0 0, .int .u64 0, .string ByteArray.empty, .slice a N c], .string { data := #[112, 111, 112] }, .slice a2 N2 c2] W (LpPost xs ats a N c W)) := Lib.hid (fun W hb => listMethod_any xs ats a N c a2 N2 c2 W ((hce1.below hb).more hb.size) hxl ((HCE2.out.below hb).more hb.size) HOK2.out hl2)
        have LY : Hid (∀ W k ob on oc, Below w2.heap.size w2 W → popAt ats xs.length = some k → CeL W W.heap.size (.slice ob on oc) (xs.eraseIdx k) → Calls Tryz.prog 8 #[.slice a N c, .string { data := #[112, 111, 112] }, .slice a2 N2 c2, .slice ob on oc, .bool true] W (SmPost W)) := Lib.hid (fun W k ob on oc hb hp ho => listDoes_yes xs ats k a N c a2 N2 c2 ob on oc W ((hce1.below hb).more hb.size) HOK.out hxl ((HCE2.out.below hb).more hb.size) HOK2.out hl2 hp ho)
        have LN : Hid (∀ W, Below w2.heap.size w2 W → popAt ats xs.length = none → Calls Tryz.prog 8 #[.slice a N c, .string { data := #[112, 111, 112] }, .slice a2 N2 c2, .slice none 0 0, .bool false] W (SmPost W)) := Lib.hid (fun W hb hp => listDoes_no xs ats a N c a2 N2 c2 W ((hce1.below hb).more hb.size) HOK.out hxl ((HCE2.out.below hb).more hb.size) HOK2.out hl2 hp)
        clear hce1 C1 C2 HN HN2 hN hN2 hmin hq1 hq2 hq3 HD hxl hl2
        go_wp2_with fail
        refine C3.out.mono ?_
        rintro e w3 ⟨hb3, ⟨k, x, n1, a1, l1, c1, s1, b, cc, hp, hx, rfl, hva, hce⟩ | ⟨hp, rfl⟩⟩
        · have HB3 := Lib.hid hb3; have HVA := Lib.hid hva; have HCE3 := Lib.hid hce; have HP := Lib.hid hp; have HX := Lib.hid hx
          clear hb3 hp hx hva hce C3
          have HXO := Lib.hid (HOK.out x (List.mem_of_getElem? HX.out))
          have hA4 : Below w3.heap.size w3 (w3.alloc (.cells #[.int .i64 x.kind, .bool n1, .slice a1 l1 c1, .int .u64 x.bits, .string s1, .slice none 0 0] 27)) := (Below.refl _ _).alloc (Nat.le_refl _) _
          have HA4 := Lib.hid hA4
          have HK4 := Lib.hid (Blk.new w3 27 [.int .i64 x.kind, .bool n1, .slice a1 l1 c1, .int .u64 x.bits, .string s1, .slice none 0 0])
          have CM := Lib.hid (LM.out _ (HB3.out.trans (hA4.mono HB3.out.size)))
          clear LM hA4
          go_wp2_with fail
          refine CM.out.mono ?_
          rintro e w5 ⟨hb5, ⟨k2, x2, n2, b2, l2, c3, s2, b3, cc3, hp2, hx2, rfl, hva2, hce2, _⟩ | ⟨hp2, _⟩⟩
          · obtain rfl : k2 = k := by
              have := HP.out
              rw [hp2] at this
              injection this
            obtain rfl : x2 = x := by
              have := HX.out
              rw [hx2] at this
              injection this
            have hb35 : Below w3.heap.size w3 w5 := HA4.out.trans (hb5.mono HA4.out.size)
            have hA6 : Below w5.heap.size w5 (w5.alloc (.cells #[.int .i64 x2.kind, .bool n2, .slice b2 l2 c3, .int .u64 x2.bits, .string s2, .slice none 0 0] 27)) := (Below.refl _ _).alloc (Nat.le_refl _) _
            have hb36 := hb35.trans (hA6.mono hb35.size)
            have hkA := (HK4.out.below hb5 HK4.out.lt).alloc (.cells #[.int .i64 x2.kind, .bool n2, .slice b2 l2 c3, .int .u64 x2.bits, .string s2, .slice none 0 0] 27)
            have hkB := Blk.new w5 27 [.int .i64 x2.kind, .bool n2, .slice b2 l2 c3, .int .u64 x2.bits, .string s2, .slice none 0 0]
            obtain ⟨W6, hW6⟩ : ∃ W6, W6 = (w5.alloc (.cells #[.int .i64 x2.kind, .bool n2, .slice b2 l2 c3, .int .u64 x2.bits, .string s2, .slice none 0 0] 27)) := ⟨_, rfl⟩
            have hkA : Blk W6 w3.heap.size 27 [.int .i64 x2.kind, .bool n1, .slice a1 l1 c1, .int .u64 x2.bits, .string s1, .slice none 0 0] := by rw [hW6]; exact hkA
            have hkB : Blk W6 w5.heap.size 27 [.int .i64 x2.kind, .bool n2, .slice b2 l2 c3, .int .u64 x2.bits, .string s2, .slice none 0 0] := by rw [hW6]; exact hkB
            rw [← hW6] at hA6 hb36
            have CS : Hid (∀ W, Below W6.heap.size W6 W → Calls Tryz.prog 9 #[.agg #[.int .i64 x2.kind, .bool n1, .slice a1 l1 c1, .int .u64 x2.bits, .string s1, .slice none 0 0], .agg #[.int .i64 x2.kind, .bool n2, .slice b2 l2 c3, .int .u64 x2.bits, .string s2, .slice none 0 0]] W (fun e w' => e = .returned (.bool true) ∧ Below W6.heap.size W6 w')) := Lib.hid (fun W hW => by
              have g1 := hb36.trans (hW.mono hb36.size)
              have g2 := hA6.trans (hW.mono hA6.size)
              exact (same_any x2 n1 n2 a1 b2 l1 c1 l2 c3 s1 s2 W ((HVA.out.below g1).more g1.size) ((hva2.below g2).more g2.size) HXO.out).mono (by rintro e w' ⟨rfl, h⟩; exact ⟨rfl, hW.trans (h.mono hW.size)⟩))
            have CL : Hid (∀ W, Below W6.heap.size W6 W → Calls Tryz.prog 8 #[.slice a N c, .string { data := #[112, 111, 112] }, .slice a2 N2 c2, .slice b (xs.eraseIdx k2).length cc, .bool true] W (fun e w' => e = .returned (.bool true) ∧ Below W6.heap.size W6 w')) := Lib.hid (fun W hW => by
              have g1 := hb36.trans (hW.mono hb36.size)
              exact (LY.out W k2 b _ cc (HB3.out.trans (g1.mono HB3.out.size)) HP.out ((HCE3.out.below g1).more g1.size)).mono (by rintro e w' ⟨rfl, h⟩; exact ⟨rfl, hW.trans (h.mono hW.size)⟩))
            have KP : Hid (∀ W, Below W6.heap.size W6 W → (W.cell? ⟨w3.heap.size, 0, none⟩ = some (.int .i64 x2.kind) ∧ W.cell? ⟨w3.heap.size, 1, none⟩ = some (.bool n1) ∧ W.cell? ⟨w3.heap.size, 2, none⟩ = some (.slice a1 l1 c1) ∧ W.cell? ⟨w3.heap.size, 3, none⟩ = some (.int .u64 x2.bits) ∧ W.cell? ⟨w3.heap.size, 4, none⟩ = some (.string s1) ∧ W.cell? ⟨w3.heap.size, 5, none⟩ = some (.slice none 0 0)) ∧ (W.cell? ⟨w5.heap.size, 0, none⟩ = some (.int .i64 x2.kind) ∧ W.cell? ⟨w5.heap.size, 1, none⟩ = some (.bool n2) ∧ W.cell? ⟨w5.heap.size, 2, none⟩ = some (.slice b2 l2 c3) ∧ W.cell? ⟨w5.heap.size, 3, none⟩ = some (.int .u64 x2.bits) ∧ W.cell? ⟨w5.heap.size, 4, none⟩ = some (.string s2) ∧ W.cell? ⟨w5.heap.size, 5, none⟩ = some (.slice none 0 0))) := Lib.hid (fun W hW => by
              have kA := hkA.below hW hkA.lt
              have kB := hkB.below hW hkB.lt
              exact ⟨⟨kA.cell 0 (by simp), kA.cell 1 (by simp), kA.cell 2 (by simp), kA.cell 3 (by simp), kA.cell 4 (by simp), kA.cell 5 (by simp)⟩, ⟨kB.cell 0 (by simp), kB.cell 1 (by simp), kB.cell 2 (by simp), kB.cell 3 (by simp), kB.cell 4 (by simp), kB.cell 5 (by simp)⟩⟩)
            have HZA : Hid (Below W6.heap.size W6 (W6.alloc (.cells #[.int .i64 6, .bool false, .slice none 0 0, .int .u64 0, .string ByteArray.empty, .slice b3 (xs.eraseIdx k2).length cc3] 27))) := Lib.hid ((Below.refl _ _).alloc (Nat.le_refl _) _)
            have LTS : w3.heap.size < W6.heap.size ∧ w5.heap.size < W6.heap.size := ⟨hkA.lt, hkB.lt⟩
            have LT := Lib.hid LTS
            have FIN : Hid (∀ W, Below W6.heap.size W6 W → Below w.heap.size w W) := Lib.hid (fun W hW => HB2.out.trans ((HB3.out.trans ((hb36.trans (hW.mono hb36.size)).mono HB3.out.size)).mono HB2.out.size))
            generalize x2.kind = kd at *
            generalize x2.bits = ub at *
            generalize (xs.eraseIdx k2).length = M at *
            clear hb5 hp2 hx2 hva2 hce2 hb35 hA6 hb36 hkA hkB CM LY LN HA4 HK4 LTS
            subst hW6
            go_wp2_with fail
            refine (CL.out _ HZA.out).mono ?_
            rintro e w6 ⟨rfl, hb6⟩
            have HB6 := Lib.hid hb6
            obtain ⟨⟨p0, p1, p2, p3, p4, p5⟩, ⟨q0, q1, q2, q3, q4, q5⟩⟩ := KP.out _ hb6
            have lt1 : w3.heap.size < w6.heap.size := Nat.lt_of_lt_of_le LT.out.1 hb6.size
            have lt2 : w5.heap.size < w6.heap.size := Nat.lt_of_lt_of_le LT.out.2 hb6.size
            have CS6 := Lib.hid (CS.out _ hb6)
            clear hb6 CL CS
            go_wp2_with fail
            refine CS6.out.mono ?_
            rintro e w7 ⟨rfl, hb7⟩
            have HB7 := Lib.hid hb7
            clear hb7 CS6 p0 p1 p2 p3 p4 p5 q0 q1 q2 q3 q4 q5
            go_wp2_with fail
            go_ret
            exact ⟨rfl, FIN.out _ HB7.out⟩
          · have := HP.out
            rw [hp2] at this
            cases this
        · have HB3 := Lib.hid hb3; have HP := Lib.hid hp
          have hA4 : Below w3.heap.size w3 (w3.alloc (.cells #[.int .i64 0, .bool false, .slice none 0 0, .int .u64 0, .string ByteArray.empty, .slice none 0 0] 27)) := (Below.refl _ _).alloc (Nat.le_refl _) _
          have HA4 := Lib.hid hA4
          have CM := Lib.hid (LM.out _ (HB3.out.trans (hA4.mono HB3.out.size)))
          clear hb3 hp C3 LM hA4
          go_wp2_with fail
          refine CM.out.mono ?_
          rintro e w5 ⟨hb5, ⟨k2, x2, n2, b2, l2, c3, s2, b3, cc3, hp2, hx2, rfl, hva2, hce2, _⟩ | ⟨_, rfl⟩⟩
          · have := HP.out
            rw [hp2] at this
            cases this
          · have hb35 : Below w3.heap.size w3 w5 := HA4.out.trans (hb5.mono HA4.out.size)
            have hb25 := HB3.out.trans (hb35.mono HB3.out.size)
            have hA6 : Below w5.heap.size w5 ((w5.alloc (.cells #[.int .i64 0, .bool false, .slice none 0 0, .int .u64 0, .string ByteArray.empty, .slice none 0 0] 27)).alloc (.cells #[.int .i64 6, .bool false, .slice none 0 0, .int .u64 0, .string ByteArray.empty, .slice a N c] 27)) := ((Below.refl _ _).alloc (Nat.le_refl _) _).alloc (by simp) _
            have hb26 := hb25.trans (hA6.mono hb25.size)
            have HB26 := Lib.hid hb26
            have CL := Lib.hid (LN.out _ hb26 HP.out)
            clear hb5 hb35 hb25 hA6 hb26 CM LY LN HA4
            go_wp2_with fail
            refine CL.out.mono ?_
            rintro e w6 ⟨rfl, hb6⟩
            have HB6 := Lib.hid (HB26.out.trans (hb6.mono HB26.out.size))
            clear hb6 CL HB26
            go_wp2_with fail
            go_ret
            exact ⟨rfl, HB2.out.trans (HB6.out.mono HB2.out.size)⟩
    · clear h h2
      go_enter Tryz.func3, Tryz.ntmps3
      go_wp2_with fail
      go_ret
      exact ⟨rfl, Below.refl _ _⟩
  · clear h h2
    go_enter Tryz.func3, Tryz.ntmps3
    go_wp2_with fail
    go_ret
    exact ⟨rfl, Below.refl _ _⟩
end Go.Proofs.YtggpaejlmfppoaaGreat
