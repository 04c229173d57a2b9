/- impl.TextFind. -/
import Derived.Test.YtoggalnjjhcmkaaGreatMFindB
import Derived.Test.YtoggalnjjhcmkaaGreatBounds
import Derived.Test.YtoggalnjjhcmkaaGreatTold
import Derived.Deep.CutRange
import Derived.Deep.RegionHeld3
import Derived.Deep.RegionLaw
import Derived.Outline
namespace Go.Proofs.YtoggalnjjhcmkaaGreat
open Go.RowKit Dig
set_option linter.unusedVariables false
set_option linter.unusedSimpArgs false
set_option maxRecDepth 100000

/-- the six cells of a Val that stands for a scalar -/
def sc6 (x : Scal) (n : Bool) (a : Option Addr) (l c : Nat) (s : ByteArray) : List Value := [.int .i64 x.kind, .bool n, .slice a l c, .int .u64 0, .string s, .slice none 0 0]
/-- an impl.Val that stands for a scalar, its parts in sight -/
def VaP (w : World) (x : Scal) (n : Bool) (a : Option Addr) (l c : Nat) (t : ByteArray) : Prop := VaS w w.heap.size (.agg #[.int .i64 x.kind, .bool n, .slice a l c, .int .u64 0, .string t, .slice none 0 0]) x
theorem VaP.below {w w' : World} {x : Scal} {n : Bool} {a : Option Addr} {l c : Nat} {t : ByteArray} (h : VaP w x n a l c t) (hb : Below w.heap.size w w') : VaP w' x n a l c t := (VaS.below h hb).more hb.size
theorem vaL_two {w : World} {g : Nat} {x y : Scal} {n1 n2 : Bool} {a1 a2 : Option Addr} {l1 c1 l2 c2 : Nat} {t1 t2 : ByteArray} (hk : Blk w g 26 (sc6 x n1 a1 l1 c1 t1 ++ sc6 y n2 a2 l2 c2 t2)) (h1 : VaP w x n1 a1 l1 c1 t1) (h2 : VaP w y n2 a2 l2 c2 t2) :
    VaL w w.heap.size (.slice (some ⟨g, 0, none⟩) 2 2) [x, y] := by
  refine ⟨_, _, rfl, Nat.le_refl _, fun _ => ⟨g, 0, rfl, hk.lt, fun k z hz => ?_⟩⟩
  match k, hz with
  | 0, hz =>
    obtain rfl : x = z := by simpa using hz
    exact ⟨n1, a1, l1, c1, t1, ⟨hk.cell 0 (by simp [sc6]), hk.cell 1 (by simp [sc6]), hk.cell 2 (by simp [sc6]), hk.cell 3 (by simp [sc6]), hk.cell 4 (by simp [sc6]), hk.cell 5 (by simp [sc6])⟩, h1⟩
  | 1, hz =>
    obtain rfl : y = z := by simpa using hz
    exact ⟨n2, a2, l2, c2, t2, ⟨hk.cell 6 (by simp [sc6]), hk.cell 7 (by simp [sc6]), hk.cell 8 (by simp [sc6]), hk.cell 9 (by simp [sc6]), hk.cell 10 (by simp [sc6]), hk.cell 11 (by simp [sc6])⟩, h2⟩
  | (k + 2), hz => simp at hz
/-- the two values of the bounds, as cells -/
theorem svL_two {w : World} {a : Option Addr} {c : Nat} {x y : Scal} (h : SvL w w.heap.size (.slice a 2 c) [x, y]) :
    ∃ b o T2 T3 y2 y3, a = some ⟨b, o, none⟩ ∧ 2 ≤ c ∧ w.cell? ⟨b, o, none⟩ = some (.iface T2 y2) ∧ w.cell? ⟨b, o + 1, none⟩ = some (.iface T3 y3) ∧ SV w w.heap.size (.iface T2 y2) x ∧ SV w w.heap.size (.iface T3 y3) y := by
  obtain ⟨us, hl, hu, a', c', hv, hc, hr⟩ := h
  obtain ⟨T2, y2, e2, s2⟩ := hu 0 x rfl
  obtain ⟨T3, y3, e3, s3⟩ := hu 1 y rfl
  injection hv with e4 e5 e6
  subst e4 e6
  have hl2 : us.length = 2 := hl
  obtain ⟨b, o, rfl, _, hrd⟩ := hr (by intro e; rw [e] at hl2; simp at hl2)
  have r0 := hrd 0 (by omega)
  have r1 := hrd 1 (by omega)
  rw [List.getD_eq_getElem?_getD, e2] at r0
  rw [List.getD_eq_getElem?_getD, e3] at r1
  exact ⟨b, o, T2, T3, y2, y3, rfl, by omega, r0, r1, s2, s3⟩
theorem fargs_mk {w : World} {p : ByteArray} {x y : Scal} {T2 T3 : TypeId} {y2 y3 : Value} (h2 : SV w w.heap.size (.iface T2 y2) x) (h3 : SV w w.heap.size (.iface T3 y3) y) :
    FArgs (w.alloc (.cells #[.iface 96 (.string p), .iface T2 y2, .iface T3 y3] 77)) (.slice (some ⟨w.heap.size, 0, none⟩) 3 3) p x y := by
  have hk := Blk.new w 77 [.iface 96 (.string p), .iface T2 y2, .iface T3 y3]
  have hb : Below w.heap.size w (w.alloc (.cells #[.iface 96 (.string p), .iface T2 y2, .iface T3 y3] 77)) := (Below.refl _ _).alloc (Nat.le_refl _) _
  exact ⟨w.heap.size, 0, 3, T2, T3, y2, y3, rfl, hk.cell 0 (by simp), hk.cell 1 (by simp), hk.cell 2 (by simp), (h2.below hb).more hb.size, (h3.below hb).more hb.size⟩
/-- the two values of a search's answer -/
def FiOut (r : Option Int) (u er : Value) : Prop :=
  (∃ i, r = some i ∧ -1 ≤ i ∧ i ≤ 60 ∧ u = .iface 120 (.agg #[.int .i64 i, .pointer none]) ∧ er = .nilIface) ∨ (r = none ∧ u = .nilIface ∧ ∃ q, er = .iface 229 (.pointer (some ⟨q, 0, none⟩)))
theorem FiPost.out {err last : Bool} {s p : ByteArray} {x y : Scal} {w w' : World} {e : Ending} (h : FiPost err last s p x y w e w') : ∃ u er, e = .returned (.tuple #[u, er]) ∧ FiOut (findR err last s p x y) u er ∧ Below w.heap.size w w' := by
  obtain ⟨hb, ⟨i, hr, h1, h2, rfl⟩ | ⟨hr, q, rfl⟩⟩ := h
  · exact ⟨_, _, rfl, .inl ⟨i, hr, h1, h2, rfl, rfl⟩, hb⟩
  · exact ⟨_, _, rfl, .inr ⟨hr, rfl, q, rfl⟩, hb⟩
theorem ofNumber_any (r : Option Int) (u er : Value) (w : World) (h : FiOut r u er) : Calls Tryz.prog 49 #[u, er] w fun e w' => e = .returned (.tuple #[.int .i64 (r.getD 0), .bool r.isSome]) ∧ Below w.heap.size w w' := by
  rcases h with ⟨i, rfl, h1, h2, rfl, rfl⟩ | ⟨rfl, rfl, q, rfl⟩
  · exact ofNumber_some i w h1 h2
  · exact ofNumber_none _ w
/-- what impl.TextFind answers -/
def TfPost (r : Option Int) (w : World) (e : Ending) (w' : World) : Prop :=
  Below w.heap.size w w' ∧ e = .returned (.tuple #[.int .i64 (r.getD 0), .bool r.isSome, .bool true])
set_option maxHeartbeats 6400000 in
theorem textFind0_any (s p : ByteArray) (x y : Scal) (n1 n2 : Bool) (a1 a2 : Option Addr) (l1 c1 l2 c2 : Nat) (t1 t2 : ByteArray) (w : World) (hs : s.size ≤ 60) (hp : p.size ≤ 60) (hx : VaP w x n1 a1 l1 c1 t1) (hy : VaP w y n2 a2 l2 c2 t2) (ox : x.ok) (oy : y.ok) (px : Pl x) (py : Pl y) :
    Calls Tryz.prog 23 #[.int .i64 0, .string s, .string p, .agg #[.int .i64 x.kind, .bool n1, .slice a1 l1 c1, .int .u64 0, .string t1, .slice none 0 0], .agg #[.int .i64 y.kind, .bool n2, .slice a2 l2 c2, .int .u64 0, .string t2, .slice none 0 0]] w (TfPost (findR true false s p x y) w) := by
  obtain ⟨W1, hW1⟩ : ∃ W1, W1 = ((w.alloc (.cells #[.int .i64 x.kind, .bool n1, .slice a1 l1 c1, .int .u64 0, .string t1, .slice none 0 0] 26)).alloc (.cells #[.int .i64 y.kind, .bool n2, .slice a2 l2 c2, .int .u64 0, .string t2, .slice none 0 0] 26)).alloc (.cells #[.int .i64 x.kind, .bool n1, .slice a1 l1 c1, .int .u64 0, .string t1, .slice none 0 0, .int .i64 y.kind, .bool n2, .slice a2 l2 c2, .int .u64 0, .string t2, .slice none 0 0] 26) := ⟨_, rfl⟩
  have b1 : Below w.heap.size w W1 := by rw [hW1]; exact (((Below.refl _ _).alloc (Nat.le_refl _) _).alloc (by simp) _).alloc (by simp; omega) _
  have k1 : Blk W1 (w.heap.size + 1 + 1) 26 (sc6 x n1 a1 l1 c1 t1 ++ sc6 y n2 a2 l2 c2 t2) := by
    have := Blk.new ((w.alloc (.cells #[.int .i64 x.kind, .bool n1, .slice a1 l1 c1, .int .u64 0, .string t1, .slice none 0 0] 26)).alloc (.cells #[.int .i64 y.kind, .bool n2, .slice a2 l2 c2, .int .u64 0, .string t2, .slice none 0 0] 26)) 26 (sc6 x n1 a1 l1 c1 t1 ++ sc6 y n2 a2 l2 c2 t2)
    rw [hW1]; simpa [sc6] using this
  have CB := Lib.hid (bounds_any [x, y] (.slice (some ⟨w.heap.size + 1 + 1, 0, none⟩) 2 2) W1 (vaL_two k1 (hx.below b1) (hy.below b1)) (by simp [ox, oy]) (by simp))
  have HB1 := Lib.hid b1
  have ZC : Hid (∀ w2 T2 T3 y2 y3, Below w.heap.size w w2 → SV w2 w2.heap.size (.iface T2 y2) x → SV w2 w2.heap.size (.iface T3 y3) y → ∀ k, Calls Tryz.prog 50 #[.string s, .slice (some ⟨w2.heap.size, 0, none⟩) 3 3] ((w2.alloc (.cells #[.iface 96 (.string p), .iface T2 y2, .iface T3 y3] 77)).drewN k) fun e w' => ∃ u er, e = .returned (.tuple #[u, er]) ∧ FiOut (findR true false s p x y) u er ∧ Below w.heap.size w w') := Lib.hid (fun w2 T2 T3 y2 y3 hb h2 h3 k =>
    (ZzFind_any s p x y _ _ hs hp ((fargs_mk h2 h3).below (below_drewN (Below.refl _ _) _)) px py).mono fun e w' hf => FiPost.out (hf.from (below_drewN (hb.alloc hb.size _) _)))
  clear b1 k1 hx hy ox oy px py hs hp
  go_enter Tryz.func23, Tryz.ntmps23
  go_wp2_with fail
  rw [← hW1]
  clear hW1
  refine CB.out.mono ?_
  rintro e w2 ⟨a, c, rfl, hsv, hb2⟩
  obtain ⟨b, o, T2, T3, y2, y3, rfl, hc, d0, d1, v2, v3⟩ := svL_two hsv
  have Z1 := Lib.hid (ZC.out w2 T2 T3 y2 y3 (HB1.out.trans (hb2.mono HB1.out.size)) v2 v3)
  clear hsv hb2 v2 v3 CB ZC HB1
  obtain ⟨r, hr⟩ : ∃ r, r = findR true false s p x y := ⟨_, rfl⟩
  rw [← hr] at Z1
  have HRR := Lib.hid hr
  clear hr
  have ON : Hid (∀ u er W, FiOut r u er → Below w.heap.size w W → Calls Tryz.prog 49 #[u, er] W fun e w' => e = .returned (.tuple #[.int .i64 (r.getD 0), .bool r.isSome]) ∧ Below w.heap.size w w') := Lib.hid (fun u er W h hb => (ofNumber_any r u er W h).mono (by rintro e w' ⟨rfl, hb'⟩; exact ⟨rfl, hb.trans (hb'.mono hb.size)⟩))
  go_wp2_with fail
  go_region_with (first | (go_at_call 50; refine (Z1.out _).mono ?_; rintro e w3 ⟨u, er, rfl, hr, hb3⟩; have HB3 := Lib.hid hb3; have HR := Lib.hid hr; clear hb3 hr) | (go_at_call 49; refine (ON.out _ _ _ HR.out (by first | exact HB3.out | exact below_drewN HB3.out _ | exact below_drew1 HB3.out)).mono ?_; rintro e w4 ⟨rfl, hb4⟩; have HB4 := Lib.hid hb4; clear hb4))
  all_goals (go_wp2_with fail)
  all_goals exact bodyPost_ret (v := .tuple #[.int .i64 (r.getD 0), .bool r.isSome, .bool true]) (by simp [results, Tryz.results23, go_sem]) rfl ⟨HB4.out, by rw [← HRR.out]⟩
set_option maxHeartbeats 6400000 in
theorem textFind1_any (s p : ByteArray) (x y : Scal) (n1 n2 : Bool) (a1 a2 : Option Addr) (l1 c1 l2 c2 : Nat) (t1 t2 : ByteArray) (w : World) (hs : s.size ≤ 60) (hp : p.size ≤ 60) (hx : VaP w x n1 a1 l1 c1 t1) (hy : VaP w y n2 a2 l2 c2 t2) (ox : x.ok) (oy : y.ok) (px : Pl x) (py : Pl y) :
    Calls Tryz.prog 23 #[.int .i64 1, .string s, .string p, .agg #[.int .i64 x.kind, .bool n1, .slice a1 l1 c1, .int .u64 0, .string t1, .slice none 0 0], .agg #[.int .i64 y.kind, .bool n2, .slice a2 l2 c2, .int .u64 0, .string t2, .slice none 0 0]] w (TfPost (findR true true s p x y) w) := by
  obtain ⟨W1, hW1⟩ : ∃ W1, W1 = ((w.alloc (.cells #[.int .i64 x.kind, .bool n1, .slice a1 l1 c1, .int .u64 0, .string t1, .slice none 0 0] 26)).alloc (.cells #[.int .i64 y.kind, .bool n2, .slice a2 l2 c2, .int .u64 0, .string t2, .slice none 0 0] 26)).alloc (.cells #[.int .i64 x.kind, .bool n1, .slice a1 l1 c1, .int .u64 0, .string t1, .slice none 0 0, .int .i64 y.kind, .bool n2, .slice a2 l2 c2, .int .u64 0, .string t2, .slice none 0 0] 26) := ⟨_, rfl⟩
  have b1 : Below w.heap.size w W1 := by rw [hW1]; exact (((Below.refl _ _).alloc (Nat.le_refl _) _).alloc (by simp) _).alloc (by simp; omega) _
  have k1 : Blk W1 (w.heap.size + 1 + 1) 26 (sc6 x n1 a1 l1 c1 t1 ++ sc6 y n2 a2 l2 c2 t2) := by
    have := Blk.new ((w.alloc (.cells #[.int .i64 x.kind, .bool n1, .slice a1 l1 c1, .int .u64 0, .string t1, .slice none 0 0] 26)).alloc (.cells #[.int .i64 y.kind, .bool n2, .slice a2 l2 c2, .int .u64 0, .string t2, .slice none 0 0] 26)) 26 (sc6 x n1 a1 l1 c1 t1 ++ sc6 y n2 a2 l2 c2 t2)
    rw [hW1]; simpa [sc6] using this
  have CB := Lib.hid (bounds_any [x, y] (.slice (some ⟨w.heap.size + 1 + 1, 0, none⟩) 2 2) W1 (vaL_two k1 (hx.below b1) (hy.below b1)) (by simp [ox, oy]) (by simp))
  have HB1 := Lib.hid b1
  have ZC : Hid (∀ w2 T2 T3 y2 y3, Below w.heap.size w w2 → SV w2 w2.heap.size (.iface T2 y2) x → SV w2 w2.heap.size (.iface T3 y3) y → ∀ k, Calls Tryz.prog 51 #[.string s, .slice (some ⟨w2.heap.size, 0, none⟩) 3 3] ((w2.alloc (.cells #[.iface 96 (.string p), .iface T2 y2, .iface T3 y3] 77)).drewN k) fun e w' => ∃ u er, e = .returned (.tuple #[u, er]) ∧ FiOut (findR true true s p x y) u er ∧ Below w.heap.size w w') := Lib.hid (fun w2 T2 T3 y2 y3 hb h2 h3 k =>
    (ZzRfind_any s p x y _ _ hs hp ((fargs_mk h2 h3).below (below_drewN (Below.refl _ _) _)) px py).mono fun e w' hf => FiPost.out (hf.from (below_drewN (hb.alloc hb.size _) _)))
  clear b1 k1 hx hy ox oy px py hs hp
  go_enter Tryz.func23, Tryz.ntmps23
  go_wp2_with fail
  rw [← hW1]
  clear hW1
  refine CB.out.mono ?_
  rintro e w2 ⟨a, c, rfl, hsv, hb2⟩
  obtain ⟨b, o, T2, T3, y2, y3, rfl, hc, d0, d1, v2, v3⟩ := svL_two hsv
  have Z1 := Lib.hid (ZC.out w2 T2 T3 y2 y3 (HB1.out.trans (hb2.mono HB1.out.size)) v2 v3)
  clear hsv hb2 v2 v3 CB ZC HB1
  obtain ⟨r, hr⟩ : ∃ r, r = findR true true s p x y := ⟨_, rfl⟩
  rw [← hr] at Z1
  have HRR := Lib.hid hr
  clear hr
  have ON : Hid (∀ u er W, FiOut r u er → Below w.heap.size w W → Calls Tryz.prog 49 #[u, er] W fun e w' => e = .returned (.tuple #[.int .i64 (r.getD 0), .bool r.isSome]) ∧ Below w.heap.size w w') := Lib.hid (fun u er W h hb => (ofNumber_any r u er W h).mono (by rintro e w' ⟨rfl, hb'⟩; exact ⟨rfl, hb.trans (hb'.mono hb.size)⟩))
  go_wp2_with fail
  go_region_with (first | (go_at_call 51; refine (Z1.out _).mono ?_; rintro e w3 ⟨u, er, rfl, hr, hb3⟩; have HB3 := Lib.hid hb3; have HR := Lib.hid hr; clear hb3 hr) | (go_at_call 49; refine (ON.out _ _ _ HR.out (by first | exact HB3.out | exact below_drewN HB3.out _ | exact below_drew1 HB3.out)).mono ?_; rintro e w4 ⟨rfl, hb4⟩; have HB4 := Lib.hid hb4; clear hb4))
  all_goals (go_wp2_with fail)
  all_goals exact bodyPost_ret (v := .tuple #[.int .i64 (r.getD 0), .bool r.isSome, .bool true]) (by simp [results, Tryz.results23, go_sem]) rfl ⟨HB4.out, by rw [← HRR.out]⟩
set_option maxHeartbeats 6400000 in
theorem textFind2_any (s p : ByteArray) (x y : Scal) (n1 n2 : Bool) (a1 a2 : Option Addr) (l1 c1 l2 c2 : Nat) (t1 t2 : ByteArray) (w : World) (hs : s.size ≤ 60) (hp : p.size ≤ 60) (hx : VaP w x n1 a1 l1 c1 t1) (hy : VaP w y n2 a2 l2 c2 t2) (ox : x.ok) (oy : y.ok) (px : Pl x) (py : Pl y) :
    Calls Tryz.prog 23 #[.int .i64 2, .string s, .string p, .agg #[.int .i64 x.kind, .bool n1, .slice a1 l1 c1, .int .u64 0, .string t1, .slice none 0 0], .agg #[.int .i64 y.kind, .bool n2, .slice a2 l2 c2, .int .u64 0, .string t2, .slice none 0 0]] w (TfPost (findR false false s p x y) w) := by
  obtain ⟨W1, hW1⟩ : ∃ W1, W1 = ((w.alloc (.cells #[.int .i64 x.kind, .bool n1, .slice a1 l1 c1, .int .u64 0, .string t1, .slice none 0 0] 26)).alloc (.cells #[.int .i64 y.kind, .bool n2, .slice a2 l2 c2, .int .u64 0, .string t2, .slice none 0 0] 26)).alloc (.cells #[.int .i64 x.kind, .bool n1, .slice a1 l1 c1, .int .u64 0, .string t1, .slice none 0 0, .int .i64 y.kind, .bool n2, .slice a2 l2 c2, .int .u64 0, .string t2, .slice none 0 0] 26) := ⟨_, rfl⟩
  have b1 : Below w.heap.size w W1 := by rw [hW1]; exact (((Below.refl _ _).alloc (Nat.le_refl _) _).alloc (by simp) _).alloc (by simp; omega) _
  have k1 : Blk W1 (w.heap.size + 1 + 1) 26 (sc6 x n1 a1 l1 c1 t1 ++ sc6 y n2 a2 l2 c2 t2) := by
    have := Blk.new ((w.alloc (.cells #[.int .i64 x.kind, .bool n1, .slice a1 l1 c1, .int .u64 0, .string t1, .slice none 0 0] 26)).alloc (.cells #[.int .i64 y.kind, .bool n2, .slice a2 l2 c2, .int .u64 0, .string t2, .slice none 0 0] 26)) 26 (sc6 x n1 a1 l1 c1 t1 ++ sc6 y n2 a2 l2 c2 t2)
    rw [hW1]; simpa [sc6] using this
  have CB := Lib.hid (bounds_any [x, y] (.slice (some ⟨w.heap.size + 1 + 1, 0, none⟩) 2 2) W1 (vaL_two k1 (hx.below b1) (hy.below b1)) (by simp [ox, oy]) (by simp))
  have HB1 := Lib.hid b1
  have ZC : Hid (∀ w2 T2 T3 y2 y3, Below w.heap.size w w2 → SV w2 w2.heap.size (.iface T2 y2) x → SV w2 w2.heap.size (.iface T3 y3) y → ∀ k, Calls Tryz.prog 52 #[.string s, .slice (some ⟨w2.heap.size, 0, none⟩) 3 3] ((w2.alloc (.cells #[.iface 96 (.string p), .iface T2 y2, .iface T3 y3] 77)).drewN k) fun e w' => ∃ u er, e = .returned (.tuple #[u, er]) ∧ FiOut (findR false false s p x y) u er ∧ Below w.heap.size w w') := Lib.hid (fun w2 T2 T3 y2 y3 hb h2 h3 k =>
    (ZzIndex_any s p x y _ _ hs hp ((fargs_mk h2 h3).below (below_drewN (Below.refl _ _) _)) px py).mono fun e w' hf => FiPost.out (hf.from (below_drewN (hb.alloc hb.size _) _)))
  clear b1 k1 hx hy ox oy px py hs hp
  go_enter Tryz.func23, Tryz.ntmps23
  go_wp2_with fail
  rw [← hW1]
  clear hW1
  refine CB.out.mono ?_
  rintro e w2 ⟨a, c, rfl, hsv, hb2⟩
  obtain ⟨b, o, T2, T3, y2, y3, rfl, hc, d0, d1, v2, v3⟩ := svL_two hsv
  have Z1 := Lib.hid (ZC.out w2 T2 T3 y2 y3 (HB1.out.trans (hb2.mono HB1.out.size)) v2 v3)
  clear hsv hb2 v2 v3 CB ZC HB1
  obtain ⟨r, hr⟩ : ∃ r, r = findR false false s p x y := ⟨_, rfl⟩
  rw [← hr] at Z1
  have HRR := Lib.hid hr
  clear hr
  have ON : Hid (∀ u er W, FiOut r u er → Below w.heap.size w W → Calls Tryz.prog 49 #[u, er] W fun e w' => e = .returned (.tuple #[.int .i64 (r.getD 0), .bool r.isSome]) ∧ Below w.heap.size w w') := Lib.hid (fun u er W h hb => (ofNumber_any r u er W h).mono (by rintro e w' ⟨rfl, hb'⟩; exact ⟨rfl, hb.trans (hb'.mono hb.size)⟩))
  go_wp2_with fail
  go_region_with (first | (go_at_call 52; refine (Z1.out _).mono ?_; rintro e w3 ⟨u, er, rfl, hr, hb3⟩; have HB3 := Lib.hid hb3; have HR := Lib.hid hr; clear hb3 hr) | (go_at_call 49; refine (ON.out _ _ _ HR.out (by first | exact HB3.out | exact below_drewN HB3.out _ | exact below_drew1 HB3.out)).mono ?_; rintro e w4 ⟨rfl, hb4⟩; have HB4 := Lib.hid hb4; clear hb4))
  all_goals (go_wp2_with fail)
  all_goals exact bodyPost_ret (v := .tuple #[.int .i64 (r.getD 0), .bool r.isSome, .bool true]) (by simp [results, Tryz.results23, go_sem]) rfl ⟨HB4.out, by rw [← HRR.out]⟩
set_option maxHeartbeats 6400000 in
theorem textFind3_any (s p : ByteArray) (x y : Scal) (n1 n2 : Bool) (a1 a2 : Option Addr) (l1 c1 l2 c2 : Nat) (t1 t2 : ByteArray) (w : World) (hs : s.size ≤ 60) (hp : p.size ≤ 60) (hx : VaP w x n1 a1 l1 c1 t1) (hy : VaP w y n2 a2 l2 c2 t2) (ox : x.ok) (oy : y.ok) (px : Pl x) (py : Pl y) :
    Calls Tryz.prog 23 #[.int .i64 3, .string s, .string p, .agg #[.int .i64 x.kind, .bool n1, .slice a1 l1 c1, .int .u64 0, .string t1, .slice none 0 0], .agg #[.int .i64 y.kind, .bool n2, .slice a2 l2 c2, .int .u64 0, .string t2, .slice none 0 0]] w (TfPost (findR false true s p x y) w) := by
  obtain ⟨W1, hW1⟩ : ∃ W1, W1 = ((w.alloc (.cells #[.int .i64 x.kind, .bool n1, .slice a1 l1 c1, .int .u64 0, .string t1, .slice none 0 0] 26)).alloc (.cells #[.int .i64 y.kind, .bool n2, .slice a2 l2 c2, .int .u64 0, .string t2, .slice none 0 0] 26)).alloc (.cells #[.int .i64 x.kind, .bool n1, .slice a1 l1 c1, .int .u64 0, .string t1, .slice none 0 0, .int .i64 y.kind, .bool n2, .slice a2 l2 c2, .int .u64 0, .string t2, .slice none 0 0] 26) := ⟨_, rfl⟩
  have b1 : Below w.heap.size w W1 := by rw [hW1]; exact (((Below.refl _ _).alloc (Nat.le_refl _) _).alloc (by simp) _).alloc (by simp; omega) _
  have k1 : Blk W1 (w.heap.size + 1 + 1) 26 (sc6 x n1 a1 l1 c1 t1 ++ sc6 y n2 a2 l2 c2 t2) := by
    have := Blk.new ((w.alloc (.cells #[.int .i64 x.kind, .bool n1, .slice a1 l1 c1, .int .u64 0, .string t1, .slice none 0 0] 26)).alloc (.cells #[.int .i64 y.kind, .bool n2, .slice a2 l2 c2, .int .u64 0, .string t2, .slice none 0 0] 26)) 26 (sc6 x n1 a1 l1 c1 t1 ++ sc6 y n2 a2 l2 c2 t2)
    rw [hW1]; simpa [sc6] using this
  have CB := Lib.hid (bounds_any [x, y] (.slice (some ⟨w.heap.size + 1 + 1, 0, none⟩) 2 2) W1 (vaL_two k1 (hx.below b1) (hy.below b1)) (by simp [ox, oy]) (by simp))
  have HB1 := Lib.hid b1
  have ZC : Hid (∀ w2 T2 T3 y2 y3, Below w.heap.size w w2 → SV w2 w2.heap.size (.iface T2 y2) x → SV w2 w2.heap.size (.iface T3 y3) y → ∀ k, Calls Tryz.prog 53 #[.string s, .slice (some ⟨w2.heap.size, 0, none⟩) 3 3] ((w2.alloc (.cells #[.iface 96 (.string p), .iface T2 y2, .iface T3 y3] 77)).drewN k) fun e w' => ∃ u er, e = .returned (.tuple #[u, er]) ∧ FiOut (findR false true s p x y) u er ∧ Below w.heap.size w w') := Lib.hid (fun w2 T2 T3 y2 y3 hb h2 h3 k =>
    (ZzRindex_any s p x y _ _ hs hp ((fargs_mk h2 h3).below (below_drewN (Below.refl _ _) _)) px py).mono fun e w' hf => FiPost.out (hf.from (below_drewN (hb.alloc hb.size _) _)))
  clear b1 k1 hx hy ox oy px py hs hp
  go_enter Tryz.func23, Tryz.ntmps23
  go_wp2_with fail
  rw [← hW1]
  clear hW1
  refine CB.out.mono ?_
  rintro e w2 ⟨a, c, rfl, hsv, hb2⟩
  obtain ⟨b, o, T2, T3, y2, y3, rfl, hc, d0, d1, v2, v3⟩ := svL_two hsv
  have Z1 := Lib.hid (ZC.out w2 T2 T3 y2 y3 (HB1.out.trans (hb2.mono HB1.out.size)) v2 v3)
  clear hsv hb2 v2 v3 CB ZC HB1
  obtain ⟨r, hr⟩ : ∃ r, r = findR false true s p x y := ⟨_, rfl⟩
  rw [← hr] at Z1
  have HRR := Lib.hid hr
  clear hr
  have ON : Hid (∀ u er W, FiOut r u er → Below w.heap.size w W → Calls Tryz.prog 49 #[u, er] W fun e w' => e = .returned (.tuple #[.int .i64 (r.getD 0), .bool r.isSome]) ∧ Below w.heap.size w w') := Lib.hid (fun u er W h hb => (ofNumber_any r u er W h).mono (by rintro e w' ⟨rfl, hb'⟩; exact ⟨rfl, hb.trans (hb'.mono hb.size)⟩))
  go_wp2_with fail
  go_region_with (first | (go_at_call 53; refine (Z1.out _).mono ?_; rintro e w3 ⟨u, er, rfl, hr, hb3⟩; have HB3 := Lib.hid hb3; have HR := Lib.hid hr; clear hb3 hr) | (go_at_call 49; refine (ON.out _ _ _ HR.out (by first | exact HB3.out | exact below_drewN HB3.out _ | exact below_drew1 HB3.out)).mono ?_; rintro e w4 ⟨rfl, hb4⟩; have HB4 := Lib.hid hb4; clear hb4))
  all_goals (go_wp2_with fail)
  all_goals exact bodyPost_ret (v := .tuple #[.int .i64 (r.getD 0), .bool r.isSome, .bool true]) (by simp [results, Tryz.results23, go_sem]) rfl ⟨HB4.out, by rw [← HRR.out]⟩
end Go.Proofs.YtoggalnjjhcmkaaGreat
