/- impl.scalars: the values of the package for a slice of scalars. -/
import Derived.Test.YtggpaejlmfppoaaGreatScal
namespace Go.Proofs.YtggpaejlmfppoaaGreat
open Go.RowKit Dig
set_option linter.unusedVariables false
set_option linter.unusedSimpArgs false
set_option maxRecDepth 100000

/-- a slice of Vals that stand for scalars -/
def VaL (w : World) (B : Nat) (v : Value) (xs : List Scal) : Prop :=
  ∃ a c, v = .slice a xs.length c ∧ xs.length ≤ c ∧ (xs ≠ [] → ∃ b o, a = some ⟨b, o, none⟩ ∧ b < B ∧ ∀ (k : Nat) (x : Scal), xs[k]? = some x → ∃ (n : Bool) (p : Option Addr) (l cc : Nat) (s : ByteArray),
    (w.cell? ⟨b, o + k * 6, none⟩ = some (.int .i64 x.kind) ∧ w.cell? ⟨b, o + k * 6 + 1, none⟩ = some (.bool n) ∧ w.cell? ⟨b, o + k * 6 + 2, none⟩ = some (.slice p l cc) ∧ w.cell? ⟨b, o + k * 6 + 3, none⟩ = some (.int .u64 0) ∧ w.cell? ⟨b, o + k * 6 + 4, none⟩ = some (.string s) ∧ w.cell? ⟨b, o + k * 6 + 5, none⟩ = some (.slice none 0 0)) ∧
    VaS w B (.agg #[.int .i64 x.kind, .bool n, .slice p l cc, .int .u64 0, .string s, .slice none 0 0]) x)
/-- a slice of values of the package that stand for scalars -/
def SvL (w : World) (B : Nat) (v : Value) (xs : List Scal) : Prop :=
  ∃ us : List Value, us.length = xs.length ∧ (∀ (k : Nat) (x : Scal), xs[k]? = some x → ∃ T y, us[k]? = some (Value.iface T y) ∧ SV w B (.iface T y) x) ∧ Sl w B v us
theorem VaL.below {w w' : World} {B : Nat} {v : Value} {xs : List Scal} (h : VaL w B v xs) (hb : Below B w w') : VaL w' B v xs := by
  obtain ⟨a, c, h1, h2, h3⟩ := h
  refine ⟨a, c, h1, h2, fun hne => ?_⟩
  obtain ⟨b, o, h4, h5, h6⟩ := h3 hne
  refine ⟨b, o, h4, h5, fun k x hx => ?_⟩
  obtain ⟨n, p, l, cc, s, ⟨g0, g1, g2, g3, g4, g5⟩, h7⟩ := h6 k x hx
  have q : ∀ i, w'.cell? ⟨b, i, none⟩ = w.cell? ⟨b, i, none⟩ := fun i => hb.cell (p := ⟨b, i, none⟩) h5
  exact ⟨n, p, l, cc, s, ⟨(q _).trans g0, (q _).trans g1, (q _).trans g2, (q _).trans g3, (q _).trans g4, (q _).trans g5⟩, h7.below hb⟩
theorem VaL.more {w : World} {B B' : Nat} {v : Value} {xs : List Scal} (h : VaL w B v xs) (hB : B ≤ B') : VaL w B' v xs := by
  obtain ⟨a, c, h1, h2, h3⟩ := h
  refine ⟨a, c, h1, h2, fun hne => ?_⟩
  obtain ⟨b, o, h4, h5, h6⟩ := h3 hne
  refine ⟨b, o, h4, by omega, fun k x hx => ?_⟩
  obtain ⟨n, p, l, cc, s, g, h7⟩ := h6 k x hx
  exact ⟨n, p, l, cc, s, g, h7.more hB⟩
theorem SvL.below {w w' : World} {B : Nat} {v : Value} {xs : List Scal} (h : SvL w B v xs) (hb : Below B w w') : SvL w' B v xs := by
  obtain ⟨us, h1, h2, h3⟩ := h
  exact ⟨us, h1, fun k x hx => by obtain ⟨T, y, h4, h5⟩ := h2 k x hx; exact ⟨T, y, h4, h5.below hb⟩, h3.below hb⟩
theorem SvL.more {w : World} {B B' : Nat} {v : Value} {xs : List Scal} (h : SvL w B v xs) (hB : B ≤ B') : SvL w B' v xs := by
  obtain ⟨us, h1, h2, h3⟩ := h
  exact ⟨us, h1, fun k x hx => by obtain ⟨T, y, h4, h5⟩ := h2 k x hx; exact ⟨T, y, h4, h5.more hB⟩, h3.more hB⟩

theorem info57 : (Tryz.prog.info? 47).map (fun i => (i.zero, i.size, i.bytes)) = some (some Value.nilIface, 1, 16) := by kernel_rfl
/-- the rounds of scalars -/
def ScRel (xs : List Scal) (w : World) (o i : Value) (wr : World) : Prop :=
  ∃ (k : Nat) (us : List Value), k ≤ xs.length ∧ i = .int .i64 (k : Int) ∧ o = .slice (some ⟨w.heap.size, 0, none⟩) k xs.length ∧ us.length = k ∧
    (∀ (j : Nat) (x : Scal), j < k → xs[j]? = some x → ∃ T y, us[j]? = some (Value.iface T y) ∧ SV wr wr.heap.size (.iface T y) x) ∧ (∀ u ∈ us, ∃ T y, u = Value.iface T y) ∧
    Blk wr w.heap.size 47 (us ++ List.replicate (xs.length - k) Value.nilIface) ∧ Below w.heap.size w wr
theorem sc_step {xs : List Scal} {w wr W1 w2 W3 w4 : World} {k : Nat} {us : List Value} {T : TypeId} {y : Value} {x : Scal} (hk : k < xs.length) (hx : xs[k]? = some x) (hl : us.length = k)
    (h1 : ∀ (j : Nat) (x : Scal), j < k → xs[j]? = some x → ∃ T y, us[j]? = some (Value.iface T y) ∧ SV wr wr.heap.size (.iface T y) x) (h2 : ∀ u ∈ us, ∃ T y, u = Value.iface T y) (hb : Below w.heap.size w wr)
    (b1 : Below wr.heap.size wr W1) (b2 : Below W1.heap.size W1 w2) (b3 : Below w2.heap.size w2 W3) (hs : SV w2 w2.heap.size (.iface T y) x)
    (hk3 : Blk W3 w.heap.size 47 (us ++ List.replicate (xs.length - k) Value.nilIface)) (hu : Up (some w.heap.size) W3 w4)
    (hk4 : Blk w4 w.heap.size 47 ((us ++ List.replicate (xs.length - k) Value.nilIface).set k (.iface T y))) :
    ScRel xs w (.slice (some ⟨w.heap.size, 0, none⟩) (k + 1) xs.length) (.int .i64 ((k : Int) + 1)) w4 := by
  have hno : ∀ u ∈ us ++ List.replicate (xs.length - k) Value.nilIface, ∀ m, u ≠ wv m := by
    intro u hu m
    rcases List.mem_append.1 hu with h | h
    · obtain ⟨T, y, rfl⟩ := h2 u h; simp [wv]
    · rw [List.eq_of_mem_replicate h]; simp [wv, Value.nilIface]
  have hb13 : Below wr.heap.size wr W3 := (b1.trans (b2.mono b1.size)).trans (b3.mono (b1.trans (b2.mono b1.size)).size)
  have c4 : ∀ {v : Value} {x : Scal}, SV W3 W3.heap.size v x → SV w4 w4.heap.size v x := fun h => (h.up_far hk3 (by decide) hno hu).more hu.size
  refine ⟨k + 1, us ++ [.iface T y], by omega, by simp, rfl, by simp [hl], ?_, ?_, ?_, ?_⟩
  · intro j x' hj hx'
    rcases Nat.lt_or_ge j k with hlt | hge
    · obtain ⟨T', y', e1, e2⟩ := h1 j x' hlt hx'
      exact ⟨T', y', by rw [List.getElem?_append_left (by omega)]; exact e1, c4 ((e2.below hb13).more hb13.size)⟩
    · obtain rfl : j = k := by omega
      rw [hx] at hx'
      injection hx' with hx'
      subst hx'
      refine ⟨T, y, ?_, c4 ((hs.below b3).more b3.size)⟩
      rw [List.getElem?_append_right (by omega), hl]; simp
  · intro u hu
    rcases List.mem_append.1 hu with h | h
    · exact h2 u h
    · simp at h; exact ⟨T, y, h⟩
  · have e : (us ++ List.replicate (xs.length - k) Value.nilIface).set k (.iface T y) = (us ++ [.iface T y]) ++ List.replicate (xs.length - (k + 1)) Value.nilIface := by
      obtain ⟨r, hr⟩ : ∃ r, xs.length - k = r + 1 := ⟨xs.length - k - 1, by omega⟩
      rw [hr, show xs.length - (k + 1) = r by omega, List.set_append_right _ _ (by omega), hl, Nat.sub_self, List.replicate_succ, List.set_cons_zero]
      simp
    rw [← e]
    exact hk4
  · have g := hb.trans (hb13.mono hb.size)
    exact g.trans (hu.below g.size (fun k hk => by injection hk with hk; omega))
def ScsPost (xs : List Scal) (w : World) (e : Ending) (w' : World) : Prop := ∃ a c, e = .returned (.tuple #[.slice a xs.length c, .bool true]) ∧ SvL w' w'.heap.size (.slice a xs.length c) xs ∧ Below w.heap.size w w'
theorem sc_fin {xs : List Scal} {w wr : World} {us : List Value} (hl : us.length = xs.length) (h1 : ∀ (j : Nat) (x : Scal), j < xs.length → xs[j]? = some x → ∃ T y, us[j]? = some (Value.iface T y) ∧ SV wr wr.heap.size (.iface T y) x)
    (hk : Blk wr w.heap.size 47 (us ++ List.replicate (xs.length - xs.length) Value.nilIface)) (hb : Below w.heap.size w wr) :
    ScsPost xs w (.returned (.tuple #[.slice (some ⟨w.heap.size, 0, none⟩) xs.length xs.length, .bool true])) wr := by
  rw [Nat.sub_self, List.replicate_zero, List.append_nil] at hk
  refine ⟨_, _, rfl, ⟨us, hl, fun k x hx => h1 k x (by
    have := (List.getElem?_eq_some_iff.1 hx).1
    omega) hx, ?_⟩, hb⟩
  have h := Sl.mk (w := wr) (b := w.heap.size) (o := 0) (B := wr.heap.size) (vs := us) (c := xs.length) (hk.rd (by simp) (fun i _ => by rw [Nat.zero_add])) (by omega) hk.lt
  rw [hl] at h
  exact h

set_option maxHeartbeats 1600000 in
theorem scalars_any (xs : List Scal) (v : Value) (w : World) (hv : VaL w w.heap.size v xs) (hok : ∀ x ∈ xs, x.ok) (hlen : xs.length ≤ 1048576) : Calls Tryz.prog 39 #[v] w (ScsPost xs w) := by
  obtain ⟨i0, hi0, hz0, hz1, hz2⟩ := info_parts info57
  obtain ⟨a, c, rfl, hc, hr⟩ := id hv
  have hmk : ∀ W : World, (Instr.makeSlice 43 (.int .i64 0) (.int .i64 (xs.length : Int))).run Tryz.prog W = .ok (.slice (some ⟨W.heap.size, 0, none⟩) 0 xs.length) (W.alloc (.cells (zs Value.nilIface xs.length).toArray 47)) := by
    intro W
    have h := run_mk (P := Tryz.prog) 43 47 Value.nilIface 16 Tryz.underlying43 info57 rfl 0 xs.length (Nat.zero_le _) (by omega) (by omega) W
    simpa using h
  have HV := Lib.hid hv
  have HO := Lib.hid hok
  have START : Hid (ScRel xs w (.slice (some ⟨w.heap.size, 0, none⟩) 0 xs.length) (.int .i64 0) (w.alloc (.cells (zs Value.nilIface xs.length).toArray 47))) := Lib.hid ⟨0, [], Nat.zero_le _, rfl, rfl, rfl, by simp, by simp, by simpa [zs] using Blk.new w 47 (List.replicate xs.length Value.nilIface), (Below.refl _ _).alloc (Nat.le_refl _) _⟩
  clear hv hok hr
  go_enter Tryz.func39, Tryz.ntmps39
  go_wp2_with fail
  go_loopw [4, 14] (ScRel xs w) (fun _ i _ => xs.length - (intOf i).toNat)
  case atStart => exact START.out
  case round =>
    obtain ⟨k, us, hk, rfl, rfl, hl, h1, h2, hkb, hb⟩ := hrel
    have H1 := Lib.hid h1; have H2 := Lib.hid h2; have HK := Lib.hid hkb; have HB := Lib.hid hb; have HL := Lib.hid hl
    clear h1 h2 hkb hb hl
    by_cases hlt : k < xs.length
    · obtain ⟨x, hx⟩ : ∃ x, xs[k]? = some x := ⟨_, List.getElem?_eq_getElem hlt⟩
      obtain ⟨a', c', hae, _, hcells⟩ := HV.out.below HB.out
      obtain ⟨b, o, ha, hbB, hcel⟩ := hcells (by intro h; rw [h] at hlt; simp at hlt)
      simp only [Value.slice.injEq, true_and] at hae
      obtain ⟨rfl, rfl⟩ := hae
      subst ha
      obtain ⟨n, p, l, cc, s, ⟨g0, g1, g2, g3, g4, g5⟩, hva⟩ := hcel k x hx
      have hbr : b < wr.heap.size := Nat.lt_of_lt_of_le hbB HB.out.size
      obtain ⟨kd, hkd⟩ : ∃ kd, kd = x.kind := ⟨_, rfl⟩
      have C : Hid (Calls Tryz.prog 57 #[.int .i64 kd, .agg #[.int .i64 kd, .bool n, .slice p l cc, .int .u64 0, .string s, .slice none 0 0]] (wr.alloc (.cells #[.int .i64 kd, .bool n, .slice p l cc, .int .u64 0, .string s, .slice none 0 0] 27)) (ScalPost x (wr.alloc (.cells #[.int .i64 kd, .bool n, .slice p l cc, .int .u64 0, .string s, .slice none 0 0] 27)))) := Lib.hid (by
        subst hkd
        have hb1 : Below wr.heap.size wr (wr.alloc (.cells #[.int .i64 x.kind, .bool n, .slice p l cc, .int .u64 0, .string s, .slice none 0 0] 27)) := (Below.refl _ _).alloc (Nat.le_refl _) _
        exact scalar_any x _ _ (((hva.more HB.out.size).below hb1).more hb1.size) (HO.out x (List.mem_of_getElem? hx)))
      rw [← hkd] at g0
      have HX := Lib.hid hx
      have hi1 : (0 : Int) ≤ (k : Int) := by omega
      have hi2 : (k : Int) < (xs.length : Int) := by omega
      clear hcells hcel hva hx hkd hbB
      go_wp2_with fail
      refine C.out.mono ?_
      rintro e w2 ⟨T, y, rfl, hs, hb2⟩
      have b1 : Below wr.heap.size wr (wr.alloc (.cells #[.int .i64 kd, .bool n, .slice p l cc, .int .u64 0, .string s, .slice none 0 0] 27)) := (Below.refl _ _).alloc (Nat.le_refl _) _
      have b3 : Below w2.heap.size w2 (w2.alloc (.cells #[.iface T y] 47)) := (Below.refl _ _).alloc (Nat.le_refl _) _
      have hb02 := b1.trans (hb2.mono b1.size)
      have hb03 := hb02.trans (b3.mono hb02.size)
      have HK3 := Lib.hid (HK.out.below hb03 HK.out.lt)
      have HN : Hid ((us ++ List.replicate (xs.length - k) Value.nilIface).length = xs.length) := Lib.hid (by simp [HL.out]; omega)
      have HC : Hid ((w2.alloc (.cells #[.iface T y] 47)).cell? ⟨w2.heap.size, 0, none⟩ = some (.iface T y)) := Lib.hid ((Blk.new w2 47 [.iface T y]).cell 0 (by simp))
      have B1 := Lib.hid b1; have B2 := Lib.hid hb2; have B3 := Lib.hid b3; have HS := Lib.hid hs
      clear b1 b3 hb02 hb03 hb2 hs g0 g1 g2 g3 g4 g5
      go_wp2_with (at_builtin; refine wpList_append_blk _ rfl (.tmp 27) (.tmp 29) 43 rfl 47 i0 Tryz.underlying43 hi0 hz1 w.heap.size k xs.length _ rfl HK3.out HN.out (.iface T y) ⟨w2.heap.size, 0, none⟩ 1 rfl HC.out rfl hlt ?_; intro w4 hk4 hu4; have HK4 := Lib.hid hk4; clear hk4; have HU4 := Lib.hid hu4; clear hu4)
      go_roundw
      case rel =>
        have HR := sc_step hlt HX.out HL.out H1.out H2.out HB.out B1.out B2.out B3.out HS.out HK3.out HU4.out HK4.out
        first | exact HR | ((repeat apply Exists.intro); exact ⟨HR, rfl⟩)
      case measure => simp [intOf]; omega
    · obtain rfl : xs.length = k := by omega
      have F := Lib.hid (sc_fin HL.out H1.out HK.out HB.out)
      clear START H1 H2
      go_wp2_with fail
      go_ret2
      exact F.out
end Go.Proofs.YtggpaejlmfppoaaGreat
