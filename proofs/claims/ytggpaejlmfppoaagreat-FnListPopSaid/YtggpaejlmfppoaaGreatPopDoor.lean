/- starlark.zzOn, ZzPop; impl.ListPop. -/
import Derived.Test.YtggpaejlmfppoaaGreatPopWalk
import Derived.Test.YtggpaejlmfppoaaGreatPopElem
namespace Go.Proofs.YtggpaejlmfppoaaGreat
open Go.RowKit Dig
set_option linter.unusedVariables false
set_option linter.unusedSimpArgs false
set_option maxRecDepth 100000

theorem PpPost.from {xs ats : List Cel} {lb g H : Nat} {w w1 w' : World} {e : Ending} (h : PpPost xs ats lb g H w1 e w') (hb : Below w.heap.size w w1) (hH : H ≤ w.heap.size) : PpPost xs ats lb g H w e w' := ⟨(hb.mono hH).trans h.1, h.2⟩
set_option maxHeartbeats 1600000 in
theorem zzOn_pop (nm : ByteArray) (lb g H : Nat) (xs ats : List Cel) (v : Value) (w : World) (h : Lst w lb g xs.length xs) (hg : H ≤ g) (hlb : H ≤ lb) (ha : PArgs w v ats) (hxl : xs.length ≤ 1048576) :
    Calls Tryz.prog 41 #[.string nm, .func (.func 42) #[] #[], .pointer (some ⟨lb, 0, none⟩), v] w (PpPost xs ats lb g H w) := by
  obtain ⟨va, vn, vc, rfl⟩ := ha.form
  have hH : H ≤ w.heap.size := by have := h.cells.2.2.2.2.1; omega
  have C : Hid (∀ W b', Below w.heap.size w W → Meth W b' nm 42 (.iface 40 (.pointer (some ⟨lb, 0, none⟩))) → Calls Tryz.prog 42 #[.pointer none, .pointer (some ⟨b', 0, none⟩), .slice va vn vc, .slice none 0 0] W (PpPost xs ats lb g H w)) := Lib.hid (fun W b' hb hm => (list_pop_any b' nm _ lb g H xs ats _ W hm (h.below hb) hg hlb (ha.below hb) hxl).mono fun e w' h => h.from hb hH)
  have hb0 : Below w.heap.size w (w.alloc (.cells #[.string nm, .func (.func 42) #[] #[], .nilIface] 142)) := (Below.refl _ _).alloc (Nat.le_refl _) _
  have CB := Lib.hid (bind_any w.heap.size nm 42 .nilIface 40 (.pointer (some ⟨lb, 0, none⟩)) _ (Blk.new w 142 [.string nm, .func (.func 42) #[] #[], .nilIface]))
  have HB0 := Lib.hid hb0
  clear h hg hlb ha hxl hH hb0
  go_enter Tryz.func41, Tryz.ntmps41
  go_wp2_with fail
  refine (newBuiltin_m _ _ _).mono ?_
  rintro e w1 ⟨rfl, rfl⟩
  go_wp2_with fail
  refine CB.out.mono ?_
  rintro e w2 ⟨b', rfl, hm, hb2⟩
  have CP := Lib.hid (C.out w2 b' (HB0.out.trans (hb2.mono HB0.out.size)) hm)
  clear hm hb2 CB C
  go_wp2_with fail
  refine CP.out.mono ?_
  rintro e w3 ⟨hb3, ⟨k, x, T, y, hp, hx, rfl, hs, hl⟩ | ⟨hp, q, rfl⟩⟩
  · have F : Hid (PpPost xs ats lb g H w (.returned (.tuple #[.iface T y, .nilIface])) w3) := Lib.hid ⟨hb3, .inl ⟨k, x, T, y, hp, hx, rfl, hs, hl⟩⟩
    clear hb3 hp hx hs hl CP
    go_wp2_with fail
    go_ret2
    exact F.out
  · have F : Hid (PpPost xs ats lb g H w (.returned (.tuple #[.nilIface, .iface 185 (.pointer (some ⟨q, 0, none⟩))])) w3) := Lib.hid ⟨hb3, .inr ⟨hp, q, rfl⟩⟩
    clear hb3 hp CP
    go_wp2_with fail
    go_ret2
    exact F.out
theorem zzPop_any (lb g H : Nat) (xs ats : List Cel) (v : Value) (w : World) (h : Lst w lb g xs.length xs) (hg : H ≤ g) (hlb : H ≤ lb) (ha : PArgs w v ats) (hxl : xs.length ≤ 1048576) :
    Calls Tryz.prog 15 #[.pointer (some ⟨lb, 0, none⟩), v] w (PpPost xs ats lb g H w) := by
  obtain ⟨va, vn, vc, rfl⟩ := ha.form
  have C := Lib.hid (fun nm => zzOn_pop nm lb g H xs ats _ w h hg hlb ha hxl)
  clear h hg hlb ha hxl
  go_enter Tryz.func15, Tryz.ntmps15
  go_wp2_with fail
  refine (C.out _).mono ?_
  rintro e w3 ⟨hb3, ⟨k, x, T, y, hp, hx, rfl, hs, hl⟩ | ⟨hp, q, rfl⟩⟩
  · have F : Hid (PpPost xs ats lb g H w (.returned (.tuple #[.iface T y, .nilIface])) w3) := Lib.hid ⟨hb3, .inl ⟨k, x, T, y, hp, hx, rfl, hs, hl⟩⟩
    clear hb3 hp hx hs hl C
    go_wp2_with fail
    go_ret2
    exact F.out
  · have F : Hid (PpPost xs ats lb g H w (.returned (.tuple #[.nilIface, .iface 185 (.pointer (some ⟨q, 0, none⟩))])) w3) := Lib.hid ⟨hb3, .inr ⟨hp, q, rfl⟩⟩
    clear hb3 hp C
    go_wp2_with fail
    go_ret2
    exact F.out
theorem CeL.up_far {w w' : World} {b o n c r : Nat} {xs : List Cel} {L : List Value} {e : TypeId} (h : CeL w w.heap.size (.slice (some ⟨b, o, none⟩) n c) xs) (hb : b ≠ r) (hk : Blk w r e L) (hd : ∀ u ∈ L, ∀ m, u ≠ bv m) (hu : Up (some r) w w') : CeL w' w'.heap.size (.slice (some ⟨b, o, none⟩) n c) xs := by
  obtain ⟨a, c', e1, h2, h3⟩ := h
  refine ⟨a, c', e1, h2, fun hne => ?_⟩
  obtain ⟨b', o', h4, h5, h6⟩ := h3 hne
  simp only [Value.slice.injEq] at e1
  obtain ⟨rfl, _, _⟩ := e1
  simp only [Option.some.injEq, Addr.mk.injEq, and_true] at h4
  obtain ⟨rfl, rfl⟩ := h4
  refine ⟨_, _, rfl, Nat.lt_of_lt_of_le h5 hu.size, fun k x hx => ?_⟩
  obtain ⟨n', p, l, cc, s, ⟨g0, g1, g2, g3, g4, g5⟩, h7⟩ := h6 k x hx
  have q : ∀ i, w'.cell? ⟨b, i, none⟩ = w.cell? ⟨b, i, none⟩ := fun i => World.cell?_of_block (a := ⟨b, i, none⟩) (hu.block b h5 (by intro e; injection e with e; exact hb e))
  exact ⟨n', p, l, cc, s, ⟨(q _).trans g0, (q _).trans g1, (q _).trans g2, (q _).trans g3, (q _).trans g4, (q _).trans g5⟩, h7.up_far hk hd hu⟩
/-- what impl.ListPop tells -/
def IlPost (xs ats : List Cel) (w : World) (e : Ending) (w' : World) : Prop :=
  Below w.heap.size w w' ∧ ((∃ k x n a l c s b cc, popAt ats xs.length = some k ∧ xs[k]? = some x ∧ e = .returned (.tuple #[.agg #[.int .i64 x.kind, .bool n, .slice a l c, .int .u64 x.bits, .string s, .slice none 0 0], .slice b (xs.eraseIdx k).length cc, .bool true, .bool true]) ∧
      VaC w' w'.heap.size (.agg #[.int .i64 x.kind, .bool n, .slice a l c, .int .u64 x.bits, .string s, .slice none 0 0]) x ∧ CeL w' w'.heap.size (.slice b (xs.eraseIdx k).length cc) (xs.eraseIdx k)) ∨
    (popAt ats xs.length = none ∧ e = .returned (.tuple #[.agg #[.int .i64 0, .bool false, .slice none 0 0, .int .u64 0, .string ByteArray.empty, .slice none 0 0], .slice none 0 0, .bool false, .bool true])))
theorem CrsOwn.args {ats : List Cel} {w' : World} {us : List Value} {g : Nat} (hl1 : ats.length ≤ 1) (hok : ∀ x ∈ ats, x.ok) (hl : us.length = ats.length) (hu : ∀ (k : Nat) (x : Cel), ats[k]? = some x → ∃ T y, us[k]? = some (Value.iface T y) ∧ SC w' w'.heap.size (.iface T y) x) (hk : Blk w' g 47 us) : PArgs w' (.slice (some ⟨g, 0, none⟩) ats.length ats.length) ats := by
  match ats, hl1 with
  | [], _ => exact .inl ⟨_, _, rfl, rfl⟩
  | [x], _ =>
    obtain ⟨T, y, e1, e2⟩ := hu 0 x rfl
    refine .inr ⟨x, g, 1, T, y, rfl, rfl, ?_, e2, hok x (by simp)⟩
    have h0 : 0 < us.length := by rw [hl]; simp
    rw [hk.cell 0 h0, List.getD_eq_getElem?_getD, e1]; rfl
end Go.Proofs.YtggpaejlmfppoaaGreat
