/- starlark.unpackPositionalArgsNoEscape at up to three variables of the type int. -/
import Derived.Test.YtggpaejlmfppoaaGreatUnpack
namespace Go.Proofs.YtggpaejlmfppoaaGreat
open Go.RowKit Dig
set_option linter.unusedVariables false
set_option linter.unusedSimpArgs false
set_option maxRecDepth 100000

/-- what is drawn as an argument: None, or an integer of int32 -/
def Sm : Scal → Prop
  | .non => True
  | .int i => -2147483648 ≤ i ∧ i ≤ 2147483647
  | .str _ => False
def isInt : Scal → Bool
  | .int _ => true
  | _ => false
def numOf : Scal → Int
  | .int i => i
  | _ => 0
/-- the variables' cells when k arguments have come into them -/
def vals (xs : List Scal) (ds : List Int) (k : Nat) : List Int := (xs.take k).map numOf ++ ds.drop k
theorem vals_zero (xs : List Scal) (ds : List Int) : vals xs ds 0 = ds := by simp [vals]
theorem vals_length (xs : List Scal) (ds : List Int) (k : Nat) (h : k ≤ xs.length) (h2 : k ≤ ds.length) : (vals xs ds k).length = ds.length := by
  simp [vals]; omega
theorem vals_succ (xs : List Scal) (ds : List Int) (k : Nat) (x : Scal) (hx : xs[k]? = some x) (h2 : k < ds.length) : vals xs ds (k + 1) = (vals xs ds k).set k (numOf x) := by
  have hk : k < xs.length := (List.getElem?_eq_some_iff.1 hx).1
  unfold vals
  rw [List.set_append_right _ _ (by simp; omega)]
  have e1 : ((xs.take k).map numOf).length = k := by simp; omega
  rw [e1, Nat.sub_self]
  rw [List.take_add_one, hx, List.drop_eq_getElem_cons h2, List.set_cons_zero]
  simp
/-- n variables of the type int in the blocks from h on, each behind a pointer in the block behind them -/
def Vars (h : Nat) (ds : List Int) (w : World) : Prop :=
  Blk w (h + ds.length) 20 ((List.range ds.length).map fun j => Value.iface 120 (.pointer (some ⟨h + j, 0, none⟩))) ∧ ∀ j, j < ds.length → Blk w (h + j) 3 [.int .i64 (ds.getD j 0)]
theorem Vars.below {h : Nat} {ds : List Int} {w w' : World} (v : Vars h ds w) (hb : Below w.heap.size w w') : Vars h ds w' :=
  ⟨v.1.below hb v.1.lt, fun j hj => (v.2 j hj).below hb (v.2 j hj).lt⟩
theorem Vars.set {h : Nat} {ds : List Int} {w : World} (v : Vars h ds w) (k : Nat) (hk : k < ds.length) (i : Int) : Vars h (ds.set k i) (w.setCell ⟨h + k, 0, none⟩ (.int .i64 i)) := by
  have hl : (ds.set k i).length = ds.length := by simp
  unfold Vars
  rw [hl]
  refine ⟨v.1.far (by simp; omega) _, fun j hj => ?_⟩
  by_cases e : j = k
  · subst e
    have := (v.2 j hj).set 0 (.int .i64 i)
    simpa [hj] using this
  · have := (v.2 j hj).far (p := ⟨h + k, 0, none⟩) (by simp; omega) (.int .i64 i)
    rw [List.getD_eq_getElem?_getD, List.getElem?_set_ne (Ne.symm e), ← List.getD_eq_getElem?_getD]
    exact this
theorem Vars.cell {h : Nat} {ds : List Int} {w : World} (v : Vars h ds w) (k : Nat) (hk : k < ds.length) : w.cell? ⟨h + ds.length, k, none⟩ = some (.iface 120 (.pointer (some ⟨h + k, 0, none⟩))) := by
  rw [v.1.cell k (by simpa using hk)]
  simp [hk]

/-- the rounds -/
def UpRel (xs : List Scal) (ds : List Int) (h : Nat) (w : World) (i : Value) (wr : World) : Prop :=
  ∃ k : Nat, k ≤ xs.length ∧ i = .int .i64 (k : Int) ∧ Hid (∀ j, j < k → ∃ x, xs[j]? = some x ∧ isInt x = true) ∧ Hid (Vars h (vals xs ds k) wr) ∧ Hid (Below h w wr) ∧ h ≤ wr.heap.size
/-- all arguments have come into their variables, or an error -/
def UpPost (xs : List Scal) (ds : List Int) (h : Nat) (w : World) (e : Ending) (w' : World) : Prop :=
  Below h w w' ∧ h ≤ w'.heap.size ∧ ((xs.all isInt = true ∧ e = .returned .nilIface ∧ Vars h (vals xs ds xs.length) w') ∨ (xs.all isInt = false ∧ ∃ b, e = .returned (.iface 185 (.pointer (some ⟨b, 0, none⟩)))))
theorem all_true {xs : List Scal} (h : ∀ j, j < xs.length → ∃ x, xs[j]? = some x ∧ isInt x = true) : xs.all isInt = true := by
  rw [List.all_eq_true]
  intro x hx
  obtain ⟨j, hj, rfl⟩ := List.mem_iff_getElem.1 hx
  obtain ⟨y, hy, hi⟩ := h j hj
  rw [List.getElem?_eq_getElem hj] at hy
  injection hy with hy
  rw [hy]; exact hi
theorem all_false {xs : List Scal} {k : Nat} {x : Scal} (h : xs[k]? = some x) (hx : isInt x = false) : xs.all isInt = false := by
  rw [Bool.eq_false_iff]
  intro e
  have := List.all_eq_true.1 e x (List.mem_of_getElem? h)
  rw [hx] at this; cases this
set_option maxHeartbeats 3200000 in
theorem unpackInts_any (s : ByteArray) (xs : List Scal) (ds : List Int) (a : Option Addr) (c h lo : Nat) (w : World) (hxs : SvL w h (.slice a xs.length c) xs) (hsm : ∀ x ∈ xs, Sm x) (hv : Vars h ds w) (hlo : lo ≤ xs.length) (hhi : xs.length ≤ ds.length) (hd : ds.length ≤ 100) :
    Calls Tryz.prog 61 #[.string s, .slice a xs.length c, .slice none 0 0, .int .i64 (lo : Int), .slice (some ⟨h + ds.length, 0, none⟩) ds.length ds.length] w (UpPost xs ds h w) := by
  have hcap : xs.length ≤ c := by
    obtain ⟨us, h1, _, a', c', h4, h5, _⟩ := hxs
    simp only [Value.slice.injEq] at h4
    omega
  have hh : h ≤ w.heap.size := by have := hv.1.lt; omega
  have START : Hid (UpRel xs ds h w (.int .i64 0) w) := Lib.hid ⟨0, Nat.zero_le _, rfl, Lib.hid (fun j hj => by omega), by rw [vals_zero]; exact Lib.hid hv, Below.refl _ _, hh⟩
  have CK := Lib.hid (checkPos_yes s a xs.length c lo ds.length w hlo hhi hd)
  have HX := Lib.hid hxs; have HS := Lib.hid hsm
  clear hxs hsm hv
  obtain ⟨N, hN⟩ : ∃ N, N = xs.length := ⟨_, rfl⟩
  obtain ⟨D, hD⟩ : ∃ D, D = ds.length := ⟨_, rfl⟩
  rw [← hN] at hcap CK hlo hhi ⊢
  rw [← hD] at hd CK hhi ⊢
  have HN := Lib.hid hN; have HD := Lib.hid hD
  clear hN hD
  go_enter Tryz.func61, Tryz.ntmps61
  go_wp2_with (go_at_call 76; refine CK.out.mono ?_; rintro e w1 ⟨rfl, rfl⟩)
  go_loopw [27] (UpRel xs ds h w1) (fun i _ => N - (intOf i).toNat)
  case atStart => exact START.out
  case round =>
    obtain ⟨k, hk, rfl, hall, hvs, hb, hhr⟩ := hrel
    rw [← HN.out] at hk
    clear START
    by_cases hlt : k < N
    · obtain ⟨x, hx⟩ : ∃ x, xs[k]? = some x := ⟨_, List.getElem?_eq_getElem (by rw [← HN.out]; exact hlt)⟩
      have hkd : k < ds.length := by rw [← HD.out]; omega
      have hvl : (vals xs ds k).length = ds.length := vals_length xs ds k (by rw [← HN.out]; omega) (by omega)
      have cv := hvs.out.cell k (by rw [hvl]; exact hkd)
      rw [hvl, ← HD.out] at cv
      obtain ⟨us, hul, hus, a2, c2, hsl, _, hrd⟩ := HX.out.below hb.out
      rw [← HN.out] at hsl
      simp only [Value.slice.injEq] at hsl
      obtain ⟨rfl, -, rfl⟩ := hsl
      obtain ⟨T, y, huk, hsv⟩ := hus k x hx
      obtain ⟨b, o, rfl, hbh, hcell⟩ := hrd (by intro e; rw [e] at huk; simp at huk)
      have ca : wr.cell? ⟨b, o + k, none⟩ = some (.iface T y) := by
        rw [hcell k (by rw [hul, ← HN.out]; exact hlt), List.getD_eq_getElem?_getD, huk]; rfl
      have hsmx := HS.out x (List.mem_of_getElem? hx)
      have hi1 : (0 : Int) ≤ (k : Int) := by omega
      have hi2 : (k : Int) < (N : Int) := by omega
      have hi3 : (k : Int) < (D : Int) := by omega
      have HXk := Lib.hid hx
      clear hul hus hcell hrd huk hx hvl
      cases x with
      | str s => cases hsmx
      | non =>
        obtain ⟨rfl, rfl⟩ : T = 81 ∧ y = .int .u8 0 := by
          have : Value.iface T y = .iface 81 (.int .u8 0) := hsv
          simpa using this
        have F : Hid (xs.all isInt = false) := Lib.hid (all_false HXk.out rfl)
        have EN : Hid (∀ s W, Below h w1 W → h ≤ W.heap.size → Calls Tryz.prog 78 #[.string s] W (fun e w' => ∃ b, e = .returned (.iface 185 (.pointer (some ⟨b, 0, none⟩))) ∧ Below h w1 w' ∧ h ≤ w'.heap.size)) := Lib.hid (fun s W hW hWh => (errNew_any s W).mono (by rintro e w' ⟨b, rfl, hb'⟩; exact ⟨b, rfl, hW.trans (hb'.mono hWh), Nat.le_trans hWh hb'.size⟩))
        have C : Hid (Calls Tryz.prog 77 #[.iface 81 (.int .u8 0), .iface 120 (.pointer (some ⟨h + k, 0, none⟩))] wr (fun e w' => ∃ b, e = .returned (.iface 185 (.pointer (some ⟨b, 0, none⟩))) ∧ Below h w1 w' ∧ h ≤ w'.heap.size)) := Lib.hid ((unpackInt_non _ wr).mono (by rintro e w' ⟨b, rfl, hb'⟩; exact ⟨b, rfl, hb.out.trans (hb'.mono hhr), Nat.le_trans hhr hb'.size⟩))
        clear hsv HS hall hvs HX CK
        go_wp2_with (first
          | (go_at_call 77; refine C.out.mono ?_; rintro e w2 ⟨b2, rfl, hb2, hh2⟩; have HB2 := Lib.hid hb2; clear hb2)
          | (go_at_call 78; refine (EN.out _ _ HB2.out hh2).mono ?_; rintro e w3 ⟨b3, rfl, hb3, hh3⟩; have HB3 := Lib.hid hb3; clear hb3))
        go_ret
        exact ⟨HB3.out, hh3, .inr ⟨F.out, _, rfl⟩⟩
      | int i =>
        obtain ⟨s', q, hq, hin⟩ := hsv
        obtain ⟨rfl, rfl⟩ : T = 87 ∧ y = .agg #[.int .i64 s', .pointer q] := by simpa using hq
        obtain ⟨rfl, rfl⟩ : s' = i ∧ q = none := by
          obtain ⟨s2, p2, e2, hc⟩ := hin
          simp only [Value.agg.injEq, Array.mk.injEq, List.cons.injEq, Value.int.injEq, Value.pointer.injEq, true_and, and_true] at e2
          obtain ⟨rfl, rfl⟩ := e2
          rcases hc with ⟨h1, h2, _⟩ | ⟨_, h2, _⟩
          · exact ⟨h2, h1⟩
          · exact absurd hsmx h2
        obtain ⟨hs1, hs2⟩ := hsmx
        have C : Hid (Calls Tryz.prog 77 #[.iface 87 (.agg #[.int .i64 s', .pointer none]), .iface 120 (.pointer (some ⟨h + k, 0, none⟩))] wr (fun e w' => e = .returned .nilIface ∧ Vars h (vals xs ds (k + 1)) w' ∧ Below h w1 w' ∧ h ≤ w'.heap.size)) := Lib.hid (by
          have hvl : (vals xs ds k).length = ds.length := vals_length xs ds k (by rw [← HN.out]; omega) (by omega)
          refine (unpackInt_yes (h + k) s' ((vals xs ds k).getD k 0) wr (hvs.out.2 k (by rw [hvl]; exact hkd)) hs1 hs2).mono ?_
          rintro e w' ⟨rfl, w2, hb2, rfl⟩
          have hb3 : Below h wr w2 := hb2.mono hhr
          refine ⟨rfl, ?_, (hb.out.trans hb3).setCell (by simp) _, by simp [World.setCell]; exact Nat.le_trans hhr hb2.size⟩
          rw [vals_succ xs ds k (.int s') HXk.out hkd]
          exact (hvs.out.below hb2).set k (by rw [hvl]; exact hkd) s')
        have HA : Hid (∀ j, j < k + 1 → ∃ x, xs[j]? = some x ∧ isInt x = true) := Lib.hid (fun j hj => by
          rcases Nat.lt_or_ge j k with h | h
          · exact hall.out j h
          · obtain rfl : j = k := by omega
            exact ⟨_, HXk.out, rfl⟩)
        clear hin hq HS hall hvs HX CK hs1 hs2
        go_wp2_with (go_at_call 77; refine C.out.mono ?_; rintro e w2 ⟨rfl, hv2, hb2, hh2⟩; have HB2 := Lib.hid hb2; have HV2 := Lib.hid hv2; clear hb2 hv2)
        go_roundw
        case rel =>
          have R : UpRel xs ds h w1 (.int .i64 ((k : Int) + 1)) w2 := ⟨k + 1, by rw [← HN.out]; omega, by go_num, HA, HV2, HB2, hh2⟩
          first | exact R | ((repeat apply Exists.intro); exact ⟨R, rfl⟩)
        case measure => simp [intOf]; omega
    · obtain rfl : k = N := by omega
      have d1 : decide ((k : Int) < (k : Int)) = false := by simp
      have F : Hid (xs.all isInt = true) := Lib.hid (all_true (by rw [← HN.out]; exact hall.out))
      have G : Hid (Vars h (vals xs ds xs.length) wr) := by rw [← HN.out]; exact hvs
      clear hall hvs HX HS CK
      go_wp2_with fail
      go_ret
      exact ⟨hb.out, hhr, .inl ⟨F.out, rfl, G.out⟩⟩
end Go.Proofs.YtggpaejlmfppoaaGreat
