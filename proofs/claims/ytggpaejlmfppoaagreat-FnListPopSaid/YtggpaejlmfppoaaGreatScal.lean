/- Scalars: what a Val and a value of the package are that stand for None, an integer or a text; impl.scalar. An append of one element into spare room. -/
import Derived.Test.YtggpaejlmfppoaaGreatImpl
import Derived.OwnWalk
namespace Go.Proofs.YtggpaejlmfppoaaGreat
open Go.RowKit Dig
set_option linter.unusedVariables false
set_option linter.unusedSimpArgs false
set_option maxRecDepth 100000

inductive Scal where
  | non : Scal
  | int (i : Int) : Scal
  | str (s : ByteArray) : Scal
def Scal.kind : Scal → Int
  | .non => 0
  | .int _ => 2
  | .str _ => 4
/-- the integer is of the size that all numbers here keep -/
def Scal.ok : Scal → Prop
  | .non => True
  | .int i => i.natAbs < lim
  | .str s => s.size ≤ maxLen
/-- an impl.Val that stands for a scalar -/
def VaS (w : World) (B : Nat) (v : Value) : Scal → Prop
  | .non => v = .agg #[.int .i64 0, .bool false, .slice none 0 0, .int .u64 0, .string ByteArray.empty, .slice none 0 0]
  | .int i => Va w B v i
  | .str s => v = .agg #[.int .i64 4, .bool false, .slice none 0 0, .int .u64 0, .string s, .slice none 0 0]
/-- a starlark.Value that stands for a scalar -/
def SV (w : World) (B : Nat) (u : Value) : Scal → Prop
  | .non => u = .iface 81 (.int .u8 0)
  | .int i => ∃ s q, u = .iface 87 (.agg #[.int .i64 s, .pointer q]) ∧ In w B (.agg #[.int .i64 s, .pointer q]) i
  | .str s => u = .iface 91 (.string s)
theorem VaS.form {w : World} {B : Nat} {v : Value} {x : Scal} (h : VaS w B v x) : ∃ (n : Bool) (a : Option Addr) (k c : Nat) (s : ByteArray), v = .agg #[.int .i64 x.kind, .bool n, .slice a k c, .int .u64 0, .string s, .slice none 0 0] := by
  cases x with
  | non => exact ⟨_, _, _, _, _, h⟩
  | int i => obtain ⟨n, a, k, c, h⟩ := Va.parts h; exact ⟨n, a, k, c, _, h⟩
  | str s => exact ⟨_, _, _, _, _, h⟩
theorem VaS.below {w w' : World} {B : Nat} {v : Value} {x : Scal} (h : VaS w B v x) (hb : Below B w w') : VaS w' B v x := by
  cases x with
  | non => exact h
  | int i => exact Va.below h hb
  | str s => exact h
theorem VaS.more {w : World} {B B' : Nat} {v : Value} {x : Scal} (h : VaS w B v x) (hB : B ≤ B') : VaS w B' v x := by
  cases x with
  | non => exact h
  | int i => exact Va.more h hB
  | str s => exact h
theorem SV.below {w w' : World} {B : Nat} {v : Value} {x : Scal} (h : SV w B v x) (hb : Below B w w') : SV w' B v x := by
  cases x with
  | non => exact h
  | int i => obtain ⟨s, q, h1, h2⟩ := h; exact ⟨s, q, h1, h2.below hb⟩
  | str s => exact h
theorem SV.more {w : World} {B B' : Nat} {v : Value} {x : Scal} (h : SV w B v x) (hB : B ≤ B') : SV w B' v x := by
  cases x with
  | non => exact h
  | int i => obtain ⟨s, q, h1, h2⟩ := h; exact ⟨s, q, h1, h2.more hB⟩
  | str s => exact h
/-- a number's words stand where no word stands -/
theorem Sl.up_far {w w' : World} {B g : Nat} {v : Value} {vs L : List Value} {e : TypeId} (h : Sl w B v vs) (hk : Blk w g e L) (hd : ∀ u ∈ L, u ∉ vs) (hu : Up (some g) w w') : Sl w' B v vs := by
  obtain ⟨a, c, hv, hc, hr⟩ := h
  refine ⟨a, c, hv, hc, fun hne => ?_⟩
  obtain ⟨b', o, ha, hb, hrd⟩ := hr hne
  have hpos : 0 < vs.length := List.length_pos_iff.2 hne
  have h0 := hrd 0 hpos
  rw [Nat.add_zero] at h0
  have hlt := lt_of_cell h0
  have hne2 : b' ≠ g := by
    rintro rfl
    rcases Nat.lt_or_ge o L.length with hl | hge
    · rw [hk.cell o hl] at h0
      have e1 : L.getD o undef = vs.getD 0 undef := Option.some.inj h0
      rw [List.getD_eq_getElem?_getD, List.getD_eq_getElem?_getD, List.getElem?_eq_getElem hl, List.getElem?_eq_getElem hpos] at e1
      exact hd _ (List.getElem_mem hl) (by simp only [Option.getD_some] at e1; rw [e1]; exact List.getElem_mem hpos)
    · unfold Blk at hk
      simp [World.cell?, hk, List.getElem?_eq_none hge] at h0
  exact ⟨b', o, ha, hb, hrd.up hu hlt (fun e => hne2 (by injection e))⟩
theorem In.up_far {w w' : World} {B g : Nat} {v : Value} {i : Int} {L : List Value} {e : TypeId} (h : In w B v i) (hk : Blk w g e L) (he : 151 ≠ e) (hd : ∀ u ∈ L, ∀ m, u ≠ wv m) (hu : Up (some g) w w') : In w' B v i := by
  obtain ⟨s, p, hv, hc⟩ := h
  refine ⟨s, p, hv, ?_⟩
  rcases hc with hc | ⟨h1, h2, b, abs, hp, hb, hkb, xs, hr, hs⟩
  · exact .inl hc
  · refine .inr ⟨h1, h2, b, abs, hp, hb, hkb.up hu ?_, xs, hr, hs.up_far hk (not_wv hd xs) hu⟩
    intro eq
    injection eq with eq
    subst eq
    exact he (hkb.inj hk).1
theorem SV.up_far {w w' : World} {B g : Nat} {v : Value} {x : Scal} {L : List Value} {e : TypeId} (h : SV w B v x) (hk : Blk w g e L) (he : 151 ≠ e) (hd : ∀ u ∈ L, ∀ m, u ≠ wv m) (hu : Up (some g) w w') : SV w' B v x := by
  cases x with
  | non => exact h
  | int i => obtain ⟨s, q, h1, h2⟩ := h; exact ⟨s, q, h1, h2.up_far hk he hd hu⟩
  | str s => exact h
theorem SV.iface {w : World} {B : Nat} {u : Value} {x : Scal} (h : SV w B u x) : ∃ T y, u = .iface T y := by
  cases x with
  | non => exact ⟨_, _, h⟩
  | int i => obtain ⟨s, q, h1, h2⟩ := h; exact ⟨_, _, h1⟩
  | str s => exact ⟨_, _, h⟩

/-- an append of one element into a row that has room -/
theorem wpList_append_blk {P : Program} (w : World) {ops : Array Oper} {rest : List Oper} {o : Oper} {a : Act} {Q : Exit → Act → World → Prop} (hg : o.guard = none) (s x : Operand) (t : TypeId)
    (hop : o.op = Op.call { callee := Callee.builtin Builtin.append, args := #[s, x], argTypes := #[t, t] }) (e : TypeId) (i : TypeInfo) (h1 : P.underlying t = some (.slice e)) (h2 : P.info? e = some i) (h4 : i.size = 1)
    (g n cap : Nat) (L : List Value) (hs : a.eval s = .slice (some ⟨g, 0, none⟩) n cap) (hk : Blk w g e L) (hc : L.length = cap) (u : Value) (ad : Addr) (c : Nat) (hx : a.eval x = .slice (some ad) 1 c) (hu : w.cell? ad = some u) (h1c : u.oneCell' = true) (hr : n < cap)
    (hK : ∀ w', Blk w' g e (L.set n u) → Up (some g) w w' → wpList P ops Q rest (a.put o.dst (.slice (some ⟨g, 0, none⟩) (n + 1) cap)) w') : wpList P ops Q (o :: rest) a w := by
  refine wpList_plain hg fun K hK' => ?_
  have hrun := run_append_room (P := P) (w := w) t o.type e i h1 h2 g n cap L.toArray hk ad 1 c [u] (by simp [h4]) (by
    intro j v hj
    cases j with
    | zero => simp at hj; subst hj; simpa [Addr.add] using hu
    | succ j => simp at hj) (by simpa using h1c) (by omega) (by simp [h4]; omega)
  unfold Oper.wp
  simp [execOp, hop, resolve, invoke, builtin, hs, hx, hrun, Result.andThen]
  refine hK' _ _ (hK _ ?_ ?_)
  · have := setRow_heap w g L.toArray (L.set n u).toArray e (0, 0) hk
    have e1 : List.take n L ++ u :: List.drop (n + 1) L = L.set n u := by
      rw [List.set_eq_take_append_cons_drop, if_pos (by omega)]
    unfold Blk
    simpa [h4, e1] using this
  · exact ⟨rfl, rfl, rfl, by simp [World.setRow], fun k _ hk => setRow_other w g k _ (fun e => hk (by simp [e]))⟩

def ScalPost (x : Scal) (w : World) (e : Ending) (w' : World) : Prop := ∃ T y, e = .returned (.tuple #[.iface T y, .bool true]) ∧ SV w' w'.heap.size (.iface T y) x ∧ Below w.heap.size w w'
set_option maxHeartbeats 1600000 in
theorem scalar_any (x : Scal) (v : Value) (w : World) (hv : VaS w w.heap.size v x) (hok : x.ok) : Calls Tryz.prog 57 #[.int .i64 x.kind, v] w (ScalPost x w) := by
  cases x with
  | non =>
    obtain rfl : v = _ := hv
    unfold Scal.kind
    go_enter Tryz.func57, Tryz.ntmps57
    go_wp2_with fail
    go_ret2
    exact ⟨_, _, rfl, rfl, (Below.refl _ _).alloc (Nat.le_refl _) _⟩
  | int i =>
    obtain ⟨n, a, k, c, rfl⟩ := Va.parts hv
    have hb0 : Below w.heap.size w (w.alloc (.cells #[.int .i64 2, .bool n, .slice a k c, .int .u64 0, .string ByteArray.empty, .slice none 0 0] 27)) := (Below.refl _ _).alloc (Nat.le_refl _) _
    have C := Lib.hid (whole_any _ i _ ((Va.below hv hb0).more hb0.size) hok)
    have HB := Lib.hid hb0
    clear hv hok hb0
    unfold Scal.kind
    go_enter Tryz.func57, Tryz.ntmps57
    go_wp2_with fail
    refine C.out.mono ?_
    rintro e w1 ⟨u, rfl, hin, hb⟩
    obtain ⟨s, q, rfl⟩ := hin.form
    have HI := Lib.hid hin
    have HB1 := Lib.hid (HB.out.trans (hb.mono HB.out.size))
    clear hin hb
    go_wp2_with fail
    go_ret2
    exact ⟨_, _, rfl, ⟨s, q, rfl, HI.out⟩, HB1.out⟩
  | str s =>
    obtain rfl : v = _ := hv
    unfold Scal.kind
    go_enter Tryz.func57, Tryz.ntmps57
    go_wp2_with fail
    go_ret2
    exact ⟨_, _, rfl, rfl, (Below.refl _ _).alloc (Nat.le_refl _) _⟩
end Go.Proofs.YtggpaejlmfppoaaGreat
