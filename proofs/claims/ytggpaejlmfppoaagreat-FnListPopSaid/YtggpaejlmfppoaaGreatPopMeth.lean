/- spec.listPop (printed by genpopmeth.py). -/
import Derived.Test.YtggpaejlmfppoaaGreatPopOut
import Derived.Test.YtggpaejlmfppoaaGreatPopPop
import Derived.Test.YtggpaejlmfppoaaGreatPopDoor
namespace Go.Proofs.YtggpaejlmfppoaaGreat
open Go.RowKit Dig
set_option linter.unusedVariables false
set_option linter.unusedSimpArgs false
set_option maxRecDepth 100000

/-- what the reference's pop answers -/
def LpPost (xs ats : List Cel) (a : Option Addr) (n c : Nat) (w : World) (e : Ending) (w' : World) : Prop :=
  Below w.heap.size w w' ∧ ((∃ k x n1 a1 l1 c1 s1 b cc, popAt ats xs.length = some k ∧ xs[k]? = some x ∧ e = .returned (.tuple #[.agg #[.int .i64 x.kind, .bool n1, .slice a1 l1 c1, .int .u64 x.bits, .string s1, .slice none 0 0], .agg #[.int .i64 6, .bool false, .slice none 0 0, .int .u64 0, .string ByteArray.empty, .slice b (xs.eraseIdx k).length cc], .bool true]) ∧
      VaC w' w'.heap.size (.agg #[.int .i64 x.kind, .bool n1, .slice a1 l1 c1, .int .u64 x.bits, .string s1, .slice none 0 0]) x ∧ CeL w' w'.heap.size (.slice b (xs.eraseIdx k).length cc) (xs.eraseIdx k) ∧ ∀ y, b = some y → w.heap.size ≤ y.block) ∨
    (popAt ats xs.length = none ∧ e = .returned (.tuple #[.agg #[.int .i64 0, .bool false, .slice none 0 0, .int .u64 0, .string ByteArray.empty, .slice none 0 0], .agg #[.int .i64 6, .bool false, .slice none 0 0, .int .u64 0, .string ByteArray.empty, .slice a n c], .bool false])))
theorem CeL.at {w : World} {B : Nat} {a : Option Addr} {n c k : Nat} {xs : List Cel} {x : Cel} (h : CeL w B (.slice a n c) xs) (hx : xs[k]? = some x) : ∃ b o n1 a1 l1 c1 s1, a = some ⟨b, o, none⟩ ∧ b < B ∧ n = xs.length ∧ n ≤ c ∧
    (w.cell? ⟨b, o + k * 6, none⟩ = some (.int .i64 x.kind) ∧ w.cell? ⟨b, o + k * 6 + 1, none⟩ = some (.bool n1) ∧ w.cell? ⟨b, o + k * 6 + 2, none⟩ = some (.slice a1 l1 c1) ∧ w.cell? ⟨b, o + k * 6 + 3, none⟩ = some (.int .u64 x.bits) ∧ w.cell? ⟨b, o + k * 6 + 4, none⟩ = some (.string s1) ∧ w.cell? ⟨b, o + k * 6 + 5, none⟩ = some (.slice none 0 0)) ∧ VaC w B (.agg #[.int .i64 x.kind, .bool n1, .slice a1 l1 c1, .int .u64 x.bits, .string s1, .slice none 0 0]) x := by
  obtain ⟨a', c', e, hc, hr⟩ := h
  simp only [Value.slice.injEq] at e
  obtain ⟨rfl, rfl, rfl⟩ := e
  obtain ⟨b, o, rfl, hb, hcel⟩ := hr (by intro h; rw [h] at hx; simp at hx)
  obtain ⟨n1, p, l, cc, s, hcs, hva⟩ := hcel k x hx
  exact ⟨b, o, n1, p, l, cc, s, rfl, hb, rfl, hc, hcs, hva⟩
/-- both results are laid -/
theorem lp_fin' {xs ats : List Cel} {a : Option Addr} {n c k r1 r2 : Nat} {w W : World} {x : Cel} {n1 : Bool} {a1 : Option Addr} {l1 c1 : Nat} {s1 : ByteArray} {ob : Option Addr} {oc : Nat} (hb : Below w.heap.size w W) (hp : popAt ats xs.length = some k) (hx : xs[k]? = some x)
    (hva : VaC W W.heap.size (.agg #[.int .i64 x.kind, .bool n1, .slice a1 l1 c1, .int .u64 x.bits, .string s1, .slice none 0 0]) x) (hce : CeL W W.heap.size (.slice ob (xs.eraseIdx k).length oc) (xs.eraseIdx k)) (hfr : ∀ y, ob = some y → (y.block ≠ r1 ∧ y.block ≠ r2) ∧ w.heap.size ≤ y.block) (h1 : Blk W r1 27 zeroVal) (h2 : Blk W r2 27 zeroVal) (hr1 : w.heap.size ≤ r1) (hr2 : w.heap.size ≤ r2) (hne : r1 ≠ r2) (v0 v1 v2 v3 v4 v5 u0 u1 u2 u3 u4 u5 : Value) :
    LpPost xs ats a n c w (.returned (.tuple #[.agg #[.int .i64 x.kind, .bool n1, .slice a1 l1 c1, .int .u64 x.bits, .string s1, .slice none 0 0], .agg #[.int .i64 6, .bool false, .slice none 0 0, .int .u64 0, .string ByteArray.empty, .slice ob (xs.eraseIdx k).length oc], .bool true])) ((((((((((((W.setCell ⟨r1, 0, none⟩ (v0)).setCell ⟨r1, 1, none⟩ (v1)).setCell ⟨r1, 2, none⟩ (v2)).setCell ⟨r1, 3, none⟩ (v3)).setCell ⟨r1, 4, none⟩ (v4)).setCell ⟨r1, 5, none⟩ (v5)).setCell ⟨r2, 0, none⟩ (u0)).setCell ⟨r2, 1, none⟩ (u1)).setCell ⟨r2, 2, none⟩ (u2)).setCell ⟨r2, 3, none⟩ (u3)).setCell ⟨r2, 4, none⟩ (u4)).setCell ⟨r2, 5, none⟩ (u5)) := by
  have hu1 : Up (some r1) W ((((((W.setCell ⟨r1, 0, none⟩ (v0)).setCell ⟨r1, 1, none⟩ (v1)).setCell ⟨r1, 2, none⟩ (v2)).setCell ⟨r1, 3, none⟩ (v3)).setCell ⟨r1, 4, none⟩ (v4)).setCell ⟨r1, 5, none⟩ (v5)) := ((((((Up.refl _ _).set 0 _).set 1 _).set 2 _).set 3 _).set 4 _).set 5 _
  have hu2 : Up (some r2) ((((((W.setCell ⟨r1, 0, none⟩ (v0)).setCell ⟨r1, 1, none⟩ (v1)).setCell ⟨r1, 2, none⟩ (v2)).setCell ⟨r1, 3, none⟩ (v3)).setCell ⟨r1, 4, none⟩ (v4)).setCell ⟨r1, 5, none⟩ (v5)) ((((((((((((W.setCell ⟨r1, 0, none⟩ (v0)).setCell ⟨r1, 1, none⟩ (v1)).setCell ⟨r1, 2, none⟩ (v2)).setCell ⟨r1, 3, none⟩ (v3)).setCell ⟨r1, 4, none⟩ (v4)).setCell ⟨r1, 5, none⟩ (v5)).setCell ⟨r2, 0, none⟩ (u0)).setCell ⟨r2, 1, none⟩ (u1)).setCell ⟨r2, 2, none⟩ (u2)).setCell ⟨r2, 3, none⟩ (u3)).setCell ⟨r2, 4, none⟩ (u4)).setCell ⟨r2, 5, none⟩ (u5)) := ((((((Up.refl _ _).set 0 _).set 1 _).set 2 _).set 3 _).set 4 _).set 5 _
  revert hu1 hu2
  generalize ((((((((((((W.setCell ⟨r1, 0, none⟩ (v0)).setCell ⟨r1, 1, none⟩ (v1)).setCell ⟨r1, 2, none⟩ (v2)).setCell ⟨r1, 3, none⟩ (v3)).setCell ⟨r1, 4, none⟩ (v4)).setCell ⟨r1, 5, none⟩ (v5)).setCell ⟨r2, 0, none⟩ (u0)).setCell ⟨r2, 1, none⟩ (u1)).setCell ⟨r2, 2, none⟩ (u2)).setCell ⟨r2, 3, none⟩ (u3)).setCell ⟨r2, 4, none⟩ (u4)).setCell ⟨r2, 5, none⟩ (u5)) = W2
  generalize ((((((W.setCell ⟨r1, 0, none⟩ (v0)).setCell ⟨r1, 1, none⟩ (v1)).setCell ⟨r1, 2, none⟩ (v2)).setCell ⟨r1, 3, none⟩ (v3)).setCell ⟨r1, 4, none⟩ (v4)).setCell ⟨r1, 5, none⟩ (v5)) = W1
  intro hu1 hu2
  have k2 := h2.up hu1 (by intro e; injection e with e; exact hne e.symm)
  have hv1 := hva.up_far h1 zero_bv hu1
  have hv2 := hv1.up_far k2 zero_bv hu2
  have hc2 : CeL W2 W2.heap.size (.slice ob (xs.eraseIdx k).length oc) (xs.eraseIdx k) := by
    by_cases hnil : xs.eraseIdx k = []
    · obtain ⟨a', c', e, hc, _⟩ := hce
      exact ⟨a', c', e, hc, fun h => absurd hnil h⟩
    · obtain ⟨a', c', e, hc, hr⟩ := id hce
      obtain ⟨b, o, ha, _, _⟩ := hr hnil
      simp only [Value.slice.injEq] at e
      obtain ⟨rfl, _, rfl⟩ := e
      subst ha
      obtain ⟨⟨q1, q2⟩, _⟩ := hfr _ rfl
      exact (hce.up_far q1 h1 zero_bv hu1).up_far q2 k2 zero_bv hu2
  have b1 := hb.trans (hu1.below hb.size (fun j hj => by injection hj with hj; omega))
  exact ⟨b1.trans (hu2.below b1.size (fun j hj => by injection hj with hj; omega)), .inl ⟨k, x, n1, a1, l1, c1, s1, ob, oc, hp, hx, rfl, hv2, hc2, fun y hy => (hfr y hy).2⟩⟩
theorem LpPost.drew {xs ats : List Cel} {a : Option Addr} {n c : Nat} {w W : World} {e : Ending} (h : LpPost xs ats a n c w e W) : LpPost xs ats a n c w e W.drew := by
  obtain ⟨hb, h⟩ := h
  refine ⟨below_drew1 hb, ?_⟩
  rcases h with ⟨k, x, n1, a1, l1, c1, s1, b, cc, h1, h2, h3, h4, h5, h6⟩ | h
  · exact .inl ⟨k, x, n1, a1, l1, c1, s1, b, cc, h1, h2, h3, h4.below (below_drew1 (Below.refl _ _)), h5.below (below_drew1 (Below.refl _ _)), h6⟩
  · exact .inr h
theorem lp_err {xs ats : List Cel} {a : Option Addr} {n c r1 r2 : Nat} {w W : World} (hb : Below w.heap.size w W) (hp : popAt ats xs.length = none) (hr1 : w.heap.size ≤ r1) (hr2 : w.heap.size ≤ r2) (v0 v1 v2 v3 v4 v5 u0 u1 u2 u3 u4 u5 : Value) :
    LpPost xs ats a n c w (.returned (.tuple #[.agg #[.int .i64 0, .bool false, .slice none 0 0, .int .u64 0, .string ByteArray.empty, .slice none 0 0], .agg #[.int .i64 6, .bool false, .slice none 0 0, .int .u64 0, .string ByteArray.empty, .slice a n c], .bool false])) ((((((((((((W.setCell ⟨r1, 0, none⟩ (v0)).setCell ⟨r1, 1, none⟩ (v1)).setCell ⟨r1, 2, none⟩ (v2)).setCell ⟨r1, 3, none⟩ (v3)).setCell ⟨r1, 4, none⟩ (v4)).setCell ⟨r1, 5, none⟩ (v5)).setCell ⟨r2, 0, none⟩ (u0)).setCell ⟨r2, 1, none⟩ (u1)).setCell ⟨r2, 2, none⟩ (u2)).setCell ⟨r2, 3, none⟩ (u3)).setCell ⟨r2, 4, none⟩ (u4)).setCell ⟨r2, 5, none⟩ (u5)) := by
  have hu1 : Up (some r1) W ((((((W.setCell ⟨r1, 0, none⟩ (v0)).setCell ⟨r1, 1, none⟩ (v1)).setCell ⟨r1, 2, none⟩ (v2)).setCell ⟨r1, 3, none⟩ (v3)).setCell ⟨r1, 4, none⟩ (v4)).setCell ⟨r1, 5, none⟩ (v5)) := ((((((Up.refl _ _).set 0 _).set 1 _).set 2 _).set 3 _).set 4 _).set 5 _
  have hu2 : Up (some r2) ((((((W.setCell ⟨r1, 0, none⟩ (v0)).setCell ⟨r1, 1, none⟩ (v1)).setCell ⟨r1, 2, none⟩ (v2)).setCell ⟨r1, 3, none⟩ (v3)).setCell ⟨r1, 4, none⟩ (v4)).setCell ⟨r1, 5, none⟩ (v5)) ((((((((((((W.setCell ⟨r1, 0, none⟩ (v0)).setCell ⟨r1, 1, none⟩ (v1)).setCell ⟨r1, 2, none⟩ (v2)).setCell ⟨r1, 3, none⟩ (v3)).setCell ⟨r1, 4, none⟩ (v4)).setCell ⟨r1, 5, none⟩ (v5)).setCell ⟨r2, 0, none⟩ (u0)).setCell ⟨r2, 1, none⟩ (u1)).setCell ⟨r2, 2, none⟩ (u2)).setCell ⟨r2, 3, none⟩ (u3)).setCell ⟨r2, 4, none⟩ (u4)).setCell ⟨r2, 5, none⟩ (u5)) := ((((((Up.refl _ _).set 0 _).set 1 _).set 2 _).set 3 _).set 4 _).set 5 _
  have b1 := hb.trans (hu1.below hb.size (fun j hj => by injection hj with hj; omega))
  exact ⟨b1.trans (hu2.below b1.size (fun j hj => by injection hj with hj; omega)), .inr ⟨hp, rfl⟩⟩
/-- the two results handed on through two cells' blocks -/
theorem lp_again {xs ats : List Cel} {a : Option Addr} {n c r1 r2 : Nat} {w w1 W : World} {e : Ending} (h : LpPost xs ats a n c w1 e W) (hb : Below w.heap.size w w1) (h1 : Blk w1 r1 27 zeroVal) (h2 : Blk w1 r2 27 zeroVal) (hr1 : w.heap.size ≤ r1) (hr2 : w.heap.size ≤ r2) (hne : r1 ≠ r2) (v0 v1 v2 v3 v4 v5 u0 u1 u2 u3 u4 u5 : Value) :
    LpPost xs ats a n c w e ((((((((((((W.setCell ⟨r1, 0, none⟩ (v0)).setCell ⟨r1, 1, none⟩ (v1)).setCell ⟨r1, 2, none⟩ (v2)).setCell ⟨r1, 3, none⟩ (v3)).setCell ⟨r1, 4, none⟩ (v4)).setCell ⟨r1, 5, none⟩ (v5)).setCell ⟨r2, 0, none⟩ (u0)).setCell ⟨r2, 1, none⟩ (u1)).setCell ⟨r2, 2, none⟩ (u2)).setCell ⟨r2, 3, none⟩ (u3)).setCell ⟨r2, 4, none⟩ (u4)).setCell ⟨r2, 5, none⟩ (u5)) := by
  obtain ⟨hbw, h⟩ := h
  have hb' := hb.trans (hbw.mono hb.size)
  rcases h with ⟨k, x, n1, a1, l1, c1, s1, b, cc, hp, hx, rfl, hva, hce, hfr⟩ | ⟨hp, rfl⟩
  · have k1 := h1.below hbw h1.lt
    have k2 := h2.below hbw h2.lt
    have := h1.lt
    have := h2.lt
    have hs := hb.size
    exact lp_fin' hb' hp hx hva hce (fun y hy => by have := hfr y hy; omega) k1 k2 hr1 hr2 hne _ _ _ _ _ _ _ _ _ _ _ _
  · exact lp_err hb' hp hr1 hr2 _ _ _ _ _ _ _ _ _ _ _ _
theorem twelve_set {W W' : World} {r1 r2 : Nat} (h1 : Blk W r1 27 zeroVal) (h2 : Blk W r2 27 zeroVal) (hne : r1 ≠ r2) {v0 v1 v2 v3 v4 v5 u0 u1 u2 u3 u4 u5 : Value} (hW : ((((((((((((W.setCell ⟨r1, 0, none⟩ (v0)).setCell ⟨r1, 1, none⟩ (v1)).setCell ⟨r1, 2, none⟩ (v2)).setCell ⟨r1, 3, none⟩ (v3)).setCell ⟨r1, 4, none⟩ (v4)).setCell ⟨r1, 5, none⟩ (v5)).setCell ⟨r2, 0, none⟩ (u0)).setCell ⟨r2, 1, none⟩ (u1)).setCell ⟨r2, 2, none⟩ (u2)).setCell ⟨r2, 3, none⟩ (u3)).setCell ⟨r2, 4, none⟩ (u4)).setCell ⟨r2, 5, none⟩ (u5)) = W') :
    (W'.cell? ⟨r1, 0, none⟩ = some (v0) ∧ W'.cell? ⟨r1, 1, none⟩ = some (v1) ∧ W'.cell? ⟨r1, 2, none⟩ = some (v2) ∧ W'.cell? ⟨r1, 3, none⟩ = some (v3) ∧ W'.cell? ⟨r1, 4, none⟩ = some (v4) ∧ W'.cell? ⟨r1, 5, none⟩ = some (v5)) ∧ (W'.cell? ⟨r2, 0, none⟩ = some (u0) ∧ W'.cell? ⟨r2, 1, none⟩ = some (u1) ∧ W'.cell? ⟨r2, 2, none⟩ = some (u2) ∧ W'.cell? ⟨r2, 3, none⟩ = some (u3) ∧ W'.cell? ⟨r2, 4, none⟩ = some (u4) ∧ W'.cell? ⟨r2, 5, none⟩ = some (u5)) := by
  have hu1 : Up (some r1) W ((((((W.setCell ⟨r1, 0, none⟩ (v0)).setCell ⟨r1, 1, none⟩ (v1)).setCell ⟨r1, 2, none⟩ (v2)).setCell ⟨r1, 3, none⟩ (v3)).setCell ⟨r1, 4, none⟩ (v4)).setCell ⟨r1, 5, none⟩ (v5)) := ((((((Up.refl _ _).set 0 _).set 1 _).set 2 _).set 3 _).set 4 _).set 5 _
  have hu2 : Up (some r2) ((((((W.setCell ⟨r1, 0, none⟩ (v0)).setCell ⟨r1, 1, none⟩ (v1)).setCell ⟨r1, 2, none⟩ (v2)).setCell ⟨r1, 3, none⟩ (v3)).setCell ⟨r1, 4, none⟩ (v4)).setCell ⟨r1, 5, none⟩ (v5)) ((((((((((((W.setCell ⟨r1, 0, none⟩ (v0)).setCell ⟨r1, 1, none⟩ (v1)).setCell ⟨r1, 2, none⟩ (v2)).setCell ⟨r1, 3, none⟩ (v3)).setCell ⟨r1, 4, none⟩ (v4)).setCell ⟨r1, 5, none⟩ (v5)).setCell ⟨r2, 0, none⟩ (u0)).setCell ⟨r2, 1, none⟩ (u1)).setCell ⟨r2, 2, none⟩ (u2)).setCell ⟨r2, 3, none⟩ (u3)).setCell ⟨r2, 4, none⟩ (u4)).setCell ⟨r2, 5, none⟩ (u5)) := ((((((Up.refl _ _).set 0 _).set 1 _).set 2 _).set 3 _).set 4 _).set 5 _
  have a1 := six_set h1 v0 v1 v2 v3 v4 v5
  have b1 := h2.up hu1 (by intro e; injection e with e; exact hne e.symm)
  have b2 := six_set b1 u0 u1 u2 u3 u4 u5
  have a2 := a1.up hu2 (by intro e; injection e with e; exact hne e)
  rw [hW] at a2 b2
  exact ⟨⟨a2.cell 0 (by simp), a2.cell 1 (by simp), a2.cell 2 (by simp), a2.cell 3 (by simp), a2.cell 4 (by simp), a2.cell 5 (by simp)⟩, ⟨b2.cell 0 (by simp), b2.cell 1 (by simp), b2.cell 2 (by simp), b2.cell 3 (by simp), b2.cell 4 (by simp), b2.cell 5 (by simp)⟩⟩
set_option maxHeartbeats 6400000 in
theorem listPop_nil (xs ats : List Cel) (hats : ats = []) (a : Option Addr) (n c : Nat) (a2 : Option Addr) (c2 : Nat) (w : World) (hv : CeL w w.heap.size (.slice a n c) xs) (hxl : xs.length ≤ 1048576) :
    Calls Tryz.prog 21 #[.agg #[.int .i64 6, .bool false, .slice none 0 0, .int .u64 0, .string ByteArray.empty, .slice a n c], .slice a2 0 c2] w (LpPost xs ats a n c w) := by
  have hn : n = xs.length := by obtain ⟨_, _, e, _⟩ := id hv; simp only [Value.slice.injEq] at e; exact e.2.1
  have HN := Lib.hid hn
  have hnl : n ≤ 1048576 := by omega
  have HV := Lib.hid hv; have HXL := Lib.hid hxl
  have hb0 : Below w.heap.size w (((w.alloc (.cells #[.int .i64 6, .bool false, .slice none 0 0, .int .u64 0, .string ByteArray.empty, .slice a n c] 27)).alloc (.cells #[.int .i64 0, .bool false, .slice none 0 0, .int .u64 0, .string ByteArray.empty, .slice none 0 0] 27)).alloc (.cells #[.int .i64 0, .bool false, .slice none 0 0, .int .u64 0, .string ByteArray.empty, .slice none 0 0] 27)) := (((Below.refl _ _).alloc (Nat.le_refl _) _).alloc (by simp) _).alloc (by simp; omega) _
  have hk0 : Blk (((w.alloc (.cells #[.int .i64 6, .bool false, .slice none 0 0, .int .u64 0, .string ByteArray.empty, .slice a n c] 27)).alloc (.cells #[.int .i64 0, .bool false, .slice none 0 0, .int .u64 0, .string ByteArray.empty, .slice none 0 0] 27)).alloc (.cells #[.int .i64 0, .bool false, .slice none 0 0, .int .u64 0, .string ByteArray.empty, .slice none 0 0] 27)) w.heap.size 27 [.int .i64 6, .bool false, .slice none 0 0, .int .u64 0, .string ByteArray.empty, .slice a n c] := ((Blk.new w 27 [.int .i64 6, .bool false, .slice none 0 0, .int .u64 0, .string ByteArray.empty, .slice a n c]).alloc _).alloc _
  have hk1 : Blk (((w.alloc (.cells #[.int .i64 6, .bool false, .slice none 0 0, .int .u64 0, .string ByteArray.empty, .slice a n c] 27)).alloc (.cells #[.int .i64 0, .bool false, .slice none 0 0, .int .u64 0, .string ByteArray.empty, .slice none 0 0] 27)).alloc (.cells #[.int .i64 0, .bool false, .slice none 0 0, .int .u64 0, .string ByteArray.empty, .slice none 0 0] 27)) (w.heap.size + 1) 27 zeroVal := by
    have := (Blk.new (w.alloc (.cells #[.int .i64 6, .bool false, .slice none 0 0, .int .u64 0, .string ByteArray.empty, .slice a n c] 27)) 27 zeroVal).alloc (.cells #[.int .i64 0, .bool false, .slice none 0 0, .int .u64 0, .string ByteArray.empty, .slice none 0 0] 27)
    simpa [zeroVal] using this
  have hk2 : Blk (((w.alloc (.cells #[.int .i64 6, .bool false, .slice none 0 0, .int .u64 0, .string ByteArray.empty, .slice a n c] 27)).alloc (.cells #[.int .i64 0, .bool false, .slice none 0 0, .int .u64 0, .string ByteArray.empty, .slice none 0 0] 27)).alloc (.cells #[.int .i64 0, .bool false, .slice none 0 0, .int .u64 0, .string ByteArray.empty, .slice none 0 0] 27)) (w.heap.size + 1 + 1) 27 zeroVal := by
    have := Blk.new ((w.alloc (.cells #[.int .i64 6, .bool false, .slice none 0 0, .int .u64 0, .string ByteArray.empty, .slice a n c] 27)).alloc (.cells #[.int .i64 0, .bool false, .slice none 0 0, .int .u64 0, .string ByteArray.empty, .slice none 0 0] 27)) 27 zeroVal
    simpa [zeroVal] using this
  obtain ⟨W0, hW0⟩ : ∃ W0, W0 = (((w.alloc (.cells #[.int .i64 6, .bool false, .slice none 0 0, .int .u64 0, .string ByteArray.empty, .slice a n c] 27)).alloc (.cells #[.int .i64 0, .bool false, .slice none 0 0, .int .u64 0, .string ByteArray.empty, .slice none 0 0] 27)).alloc (.cells #[.int .i64 0, .bool false, .slice none 0 0, .int .u64 0, .string ByteArray.empty, .slice none 0 0] 27)) := ⟨_, rfl⟩
  rw [← hW0] at hb0 hk0 hk1 hk2
  have HB := Lib.hid (Below.refl W0.heap.size W0)
  have HD : Hid (Below W0.heap.size W0 W0.drew) := Lib.hid (below_drew1 (Below.refl _ _))
  have HB0 := Lib.hid hb0
  have BR : Hid (∀ W, Below W0.heap.size W0 W → Blk W (w.heap.size + 1) 27 zeroVal ∧ Blk W (w.heap.size + 1 + 1) 27 zeroVal) := Lib.hid (fun W hb => ⟨hk1.below hb hk1.lt, hk2.below hb hk2.lt⟩)
  have KEEP : Hid (∀ W, Below W0.heap.size W0 W → (W.cell? ⟨w.heap.size, 0, none⟩ = some (.int .i64 6) ∧ W.cell? ⟨w.heap.size, 1, none⟩ = some (.bool false) ∧ W.cell? ⟨w.heap.size, 2, none⟩ = some (.slice none 0 0) ∧ W.cell? ⟨w.heap.size, 3, none⟩ = some (.int .u64 0) ∧ W.cell? ⟨w.heap.size, 4, none⟩ = some (.string ByteArray.empty) ∧ W.cell? ⟨w.heap.size, 5, none⟩ = some (.slice a n c)) ∧ (W.cell? ⟨w.heap.size + 1, 0, none⟩ = some (.int .i64 0) ∧ W.cell? ⟨w.heap.size + 1, 1, none⟩ = some (.bool false) ∧ W.cell? ⟨w.heap.size + 1, 2, none⟩ = some (.slice none 0 0) ∧ W.cell? ⟨w.heap.size + 1, 3, none⟩ = some (.int .u64 0) ∧ W.cell? ⟨w.heap.size + 1, 4, none⟩ = some (.string ByteArray.empty) ∧ W.cell? ⟨w.heap.size + 1, 5, none⟩ = some (.slice none 0 0)) ∧ (W.cell? ⟨w.heap.size + 1 + 1, 0, none⟩ = some (.int .i64 0) ∧ W.cell? ⟨w.heap.size + 1 + 1, 1, none⟩ = some (.bool false) ∧ W.cell? ⟨w.heap.size + 1 + 1, 2, none⟩ = some (.slice none 0 0) ∧ W.cell? ⟨w.heap.size + 1 + 1, 3, none⟩ = some (.int .u64 0) ∧ W.cell? ⟨w.heap.size + 1 + 1, 4, none⟩ = some (.string ByteArray.empty) ∧ W.cell? ⟨w.heap.size + 1 + 1, 5, none⟩ = some (.slice none 0 0)) ∧ (W.frozen? ⟨w.heap.size + 1, 0, none⟩ = false ∧ W.frozen? ⟨w.heap.size + 1, 1, none⟩ = false ∧ W.frozen? ⟨w.heap.size + 1, 2, none⟩ = false ∧ W.frozen? ⟨w.heap.size + 1, 3, none⟩ = false ∧ W.frozen? ⟨w.heap.size + 1, 4, none⟩ = false ∧ W.frozen? ⟨w.heap.size + 1, 5, none⟩ = false) ∧ (W.frozen? ⟨w.heap.size + 1 + 1, 0, none⟩ = false ∧ W.frozen? ⟨w.heap.size + 1 + 1, 1, none⟩ = false ∧ W.frozen? ⟨w.heap.size + 1 + 1, 2, none⟩ = false ∧ W.frozen? ⟨w.heap.size + 1 + 1, 3, none⟩ = false ∧ W.frozen? ⟨w.heap.size + 1 + 1, 4, none⟩ = false ∧ W.frozen? ⟨w.heap.size + 1 + 1, 5, none⟩ = false) ∧ w.heap.size < W.heap.size ∧ w.heap.size + 1 < W.heap.size ∧ w.heap.size + 1 + 1 < W.heap.size) := Lib.hid (fun W hb => by
    have k0 := hk0.below hb hk0.lt
    have k1 := hk1.below hb hk1.lt
    have k2 := hk2.below hb hk2.lt
    exact ⟨⟨k0.cell 0 (by simp), k0.cell 1 (by simp), k0.cell 2 (by simp), k0.cell 3 (by simp), k0.cell 4 (by simp), k0.cell 5 (by simp)⟩, ⟨k1.cell 0 (by simp [zeroVal]), k1.cell 1 (by simp [zeroVal]), k1.cell 2 (by simp [zeroVal]), k1.cell 3 (by simp [zeroVal]), k1.cell 4 (by simp [zeroVal]), k1.cell 5 (by simp [zeroVal])⟩, ⟨k2.cell 0 (by simp [zeroVal]), k2.cell 1 (by simp [zeroVal]), k2.cell 2 (by simp [zeroVal]), k2.cell 3 (by simp [zeroVal]), k2.cell 4 (by simp [zeroVal]), k2.cell 5 (by simp [zeroVal])⟩, ⟨k1.free 0, k1.free 1, k1.free 2, k1.free 3, k1.free 4, k1.free 5⟩, ⟨k2.free 0, k2.free 1, k2.free 2, k2.free 3, k2.free 4, k2.free 5⟩, k0.lt, k1.lt, k2.lt⟩)
  clear hv hxl
  rcases Nat.eq_zero_or_pos n with h0 | hpos
  · have HP : Hid (popAt ats xs.length = none) := Lib.hid (by rw [hats, ← hn, h0]; rfl)
    obtain ⟨m, hj, hm⟩ : ∃ m : Int, (-1 : Int) + (n : Int) = m ∧ m < 0 := ⟨-1, by omega, by omega⟩
    clear h0
    clear hk0 hk1 hk2 hb0 hn hats
    go_enter Tryz.func21, Tryz.ntmps21
    go_wp2_with fail
    refine (arity01_any _ _ _ _ (by omega)).mono ?_
    rintro e w1 ⟨rfl, hw1⟩
    obtain rfl : W0 = w1 := hW0.trans hw1
    clear hw1 hW0
    obtain ⟨⟨c00, c01, c02, c03, c04, c05⟩, ⟨c10, c11, c12, c13, c14, c15⟩, ⟨c20, c21, c22, c23, c24, c25⟩, ⟨f10, f11, f12, f13, f14, f15⟩, ⟨f20, f21, f22, f23, f24, f25⟩, lt0, lt1, lt2⟩ := KEEP.out _ HB.out
    go_wp2_with fail
    go_region_law (fail)
    all_goals
      generalize hWE : World.setCell _ _ _ = WE
      obtain ⟨⟨z0, z1, z2, z3, z4, z5⟩, ⟨y0, y1, y2, y3, y4, y5⟩⟩ := twelve_set (BR.out _ (by first | exact HB.out | exact HD.out)).1 (BR.out _ (by first | exact HB.out | exact HD.out)).2 (by omega) hWE
      have HWE := Lib.hid hWE
      clear hWE
      go_wp2_with fail
      refine bodyPost_ret (v := .tuple #[.agg #[.int .i64 0, .bool false, .slice none 0 0, .int .u64 0, .string ByteArray.empty, .slice none 0 0], .agg #[.int .i64 6, .bool false, .slice none 0 0, .int .u64 0, .string ByteArray.empty, .slice a n c], .bool false]) (by simp [results, Tryz.results21, go_sem, z0, z1, z2, z3, z4, z5, y0, y1, y2, y3, y4, y5] <;> rfl) rfl ?_
      rw [← HWE.out]
      exact LpPost.drew (lp_err (HB0.out.trans (HB.out.mono HB0.out.size)) HP.out (by omega) (by omega) _ _ _ _ _ _ _ _ _ _ _ _)
  · obtain ⟨k, hk⟩ : ∃ k, n = k + 1 := ⟨n - 1, by omega⟩
    have HP : Hid (popAt ats xs.length = some k) := Lib.hid (by rw [hats, ← hn]; unfold popAt askJ popIdx; simp; omega)
    have hkn : k < n := by omega
    have hj : (-1 : Int) + (n : Int) = (k : Int) := by omega
    clear hn hk hpos hats
    obtain ⟨x, hx⟩ : ∃ x, xs[k]? = some x := ⟨_, List.getElem?_eq_getElem (by rw [← HN.out]; exact hkn)⟩
    obtain ⟨b, o, n1, a1, l1, c1, s1, rfl, hbB, hz, hnc, ⟨g0, g1, g2, g3, g4, g5⟩, hva⟩ := HV.out.at hx
    obtain ⟨kd, hkd⟩ : ∃ kd, kd = x.kind := ⟨_, rfl⟩
    obtain ⟨ub, hub⟩ : ∃ ub, ub = x.bits := ⟨_, rfl⟩
    rw [← hkd] at g0
    rw [← hub] at g3
    have GG : Hid (∀ W, Below W0.heap.size W0 W → b < W.heap.size ∧ W.cell? ⟨b, o + k * 6, none⟩ = some (.int .i64 kd) ∧ W.cell? ⟨b, o + k * 6 + 1, none⟩ = some (.bool n1) ∧ W.cell? ⟨b, o + k * 6 + 2, none⟩ = some (.slice a1 l1 c1) ∧ W.cell? ⟨b, o + k * 6 + 3, none⟩ = some (.int .u64 ub) ∧ W.cell? ⟨b, o + k * 6 + 4, none⟩ = some (.string s1) ∧ W.cell? ⟨b, o + k * 6 + 5, none⟩ = some (.slice none 0 0)) := Lib.hid (fun W hb' => by
      have hb := HB0.out.trans (hb'.mono HB0.out.size)
      exact ⟨Nat.lt_of_lt_of_le hbB hb.size, (hb.cell (p := ⟨b, o + k * 6, none⟩) hbB).trans g0, (hb.cell (p := ⟨b, o + k * 6 + 1, none⟩) hbB).trans g1, (hb.cell (p := ⟨b, o + k * 6 + 2, none⟩) hbB).trans g2, (hb.cell (p := ⟨b, o + k * 6 + 3, none⟩) hbB).trans g3, (hb.cell (p := ⟨b, o + k * 6 + 4, none⟩) hbB).trans g4, (hb.cell (p := ⟨b, o + k * 6 + 5, none⟩) hbB).trans g5⟩)
    have CW : Hid (∀ W, Below W0.heap.size W0 W → Calls Tryz.prog 23 #[.slice (some ⟨b, o, none⟩) n c, .int .i64 (k : Int), .int .i64 1] W (fun e w' => ∃ ob oc, e = .returned (.slice ob (xs.eraseIdx k).length oc) ∧ Hid (CeL w' w'.heap.size (.slice ob (xs.eraseIdx k).length oc) (xs.eraseIdx k)) ∧ Hid (∀ y, ob = some y → (y.block ≠ w.heap.size + 1 ∧ y.block ≠ w.heap.size + 1 + 1) ∧ w.heap.size ≤ y.block) ∧ Below W0.heap.size W0 w')) := Lib.hid (fun W hb => by
      have hbw := HB0.out.trans (hb.mono HB0.out.size)
      refine (without_any xs k _ n c W ((HV.out.below hbw).more hbw.size) (by rw [← HN.out]; exact hkn) HXL.out).mono ?_
      rintro e w' ⟨ob, oc, rfl, hce, hb1, hfr⟩
      obtain ⟨_, _, _, _, _, _, _, h2⟩ := KEEP.out W hb
      exact ⟨ob, oc, rfl, Lib.hid hce, Lib.hid (fun y hy => by have := hfr y hy; omega), hb.trans (hb1.mono hb.size)⟩)
    have FIN : Hid (∀ W ob oc v0 v1 v2 v3 v4 v5 u0 u1 u2 u3 u4 u5, Below W0.heap.size W0 W → Hid (CeL W W.heap.size (.slice ob (xs.eraseIdx k).length oc) (xs.eraseIdx k)) → Hid (∀ y, ob = some y → (y.block ≠ w.heap.size + 1 ∧ y.block ≠ w.heap.size + 1 + 1) ∧ w.heap.size ≤ y.block) → LpPost xs ats (some ⟨b, o, none⟩) n c w (.returned (.tuple #[.agg #[.int .i64 kd, .bool n1, .slice a1 l1 c1, .int .u64 ub, .string s1, .slice none 0 0], .agg #[.int .i64 6, .bool false, .slice none 0 0, .int .u64 0, .string ByteArray.empty, .slice ob (xs.eraseIdx k).length oc], .bool true])) ((((((((((((W.setCell ⟨w.heap.size + 1, 0, none⟩ (v0)).setCell ⟨w.heap.size + 1, 1, none⟩ (v1)).setCell ⟨w.heap.size + 1, 2, none⟩ (v2)).setCell ⟨w.heap.size + 1, 3, none⟩ (v3)).setCell ⟨w.heap.size + 1, 4, none⟩ (v4)).setCell ⟨w.heap.size + 1, 5, none⟩ (v5)).setCell ⟨w.heap.size + 1 + 1, 0, none⟩ (u0)).setCell ⟨w.heap.size + 1 + 1, 1, none⟩ (u1)).setCell ⟨w.heap.size + 1 + 1, 2, none⟩ (u2)).setCell ⟨w.heap.size + 1 + 1, 3, none⟩ (u3)).setCell ⟨w.heap.size + 1 + 1, 4, none⟩ (u4)).setCell ⟨w.heap.size + 1 + 1, 5, none⟩ (u5))) := Lib.hid (by
      intro W ob oc v0 v1 v2 v3 v4 v5 u0 u1 u2 u3 u4 u5 hb h1 h2
      subst hkd hub
      exact lp_fin' (HB0.out.trans (hb.mono HB0.out.size)) HP.out hx ((hva.below (HB0.out.trans (hb.mono HB0.out.size))).more (HB0.out.trans (hb.mono HB0.out.size)).size) h1.out h2.out (hk1.below hb hk1.lt) (hk2.below hb hk2.lt) (by omega) (by omega) (by omega) _ _ _ _ _ _ _ _ _ _ _ _)
    generalize hM : (xs.eraseIdx k).length = M at CW FIN
    have hi1 : (0 : Int) ≤ (k : Int) := by omega
    have hi2 : (k : Int) < (n : Int) := by omega
    clear hx hva hkd hub hM hk0 hk1 hk2 hb0 hz
    go_enter Tryz.func21, Tryz.ntmps21
    go_wp2_with fail
    refine (arity01_any _ _ _ _ (by omega)).mono ?_
    rintro e w1 ⟨rfl, hw1⟩
    obtain rfl : W0 = w1 := hW0.trans hw1
    clear hw1 hW0 g0 g1 g2 g3 g4 g5
    obtain ⟨⟨c00, c01, c02, c03, c04, c05⟩, ⟨c10, c11, c12, c13, c14, c15⟩, ⟨c20, c21, c22, c23, c24, c25⟩, ⟨f10, f11, f12, f13, f14, f15⟩, ⟨f20, f21, f22, f23, f24, f25⟩, lt0, lt1, lt2⟩ := KEEP.out _ HB.out
    obtain ⟨lb, g0, g1, g2, g3, g4, g5⟩ := GG.out _ HB.out
    go_wp2_with fail
    go_region_law (first | (go_simp; go_at_call 23; (with_reducible refine (CW.out _ (by first | exact HB.out | (with_unfolding_all exact HD.out))).mono ?_); rintro e w4 ⟨ob, oc, rfl, HCE, HFR, hb⟩; have HB := Lib.hid hb; obtain ⟨⟨c00, c01, c02, c03, c04, c05⟩, ⟨c10, c11, c12, c13, c14, c15⟩, ⟨c20, c21, c22, c23, c24, c25⟩, ⟨f10, f11, f12, f13, f14, f15⟩, ⟨f20, f21, f22, f23, f24, f25⟩, lt0, lt1, lt2⟩ := KEEP.out _ HB.out; obtain ⟨lb, g0, g1, g2, g3, g4, g5⟩ := GG.out _ hb; clear hb))
    all_goals
      generalize hWE : World.setCell _ _ _ = WE
      obtain ⟨⟨z0, z1, z2, z3, z4, z5⟩, ⟨y0, y1, y2, y3, y4, y5⟩⟩ := twelve_set (BR.out _ HB.out).1 (BR.out _ HB.out).2 (by omega) hWE
      have HWE := Lib.hid hWE
      clear hWE
      go_wp2_with fail
      refine bodyPost_ret (v := .tuple #[.agg #[.int .i64 kd, .bool n1, .slice a1 l1 c1, .int .u64 ub, .string s1, .slice none 0 0], .agg #[.int .i64 6, .bool false, .slice none 0 0, .int .u64 0, .string ByteArray.empty, .slice ob M oc], .bool true]) (by simp [results, Tryz.results21, go_sem, z0, z1, z2, z3, z4, z5, y0, y1, y2, y3, y4, y5] <;> rfl) rfl ?_
      rw [← HWE.out]
      exact FIN.out _ _ _ _ _ _ _ _ _ _ _ _ _ _ _ HB.out HCE HFR
end Go.Proofs.YtggpaejlmfppoaaGreat
