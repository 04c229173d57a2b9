/- (*Int).scan, setFromScanner, SetString: a text of digits as a *big.Int. -/
import Derived.Test.YtbfgjaammmpcdaaGreatDoorNatAll
import Derived.Test.YtbfgjaammmpcdaaGreatDoorScanSign
namespace Go.Proofs.YtbfgjaammmpcdaaGreatDoor
open Go.RowKit Dig
set_option linter.unusedVariables false
set_option linter.unusedSimpArgs false
set_option maxRecDepth 100000

def BsPost (b z rb H : Nat) (s : ByteArray) (ds : List Nat) (w : World) (e : Ending) (w' : World) : Prop :=
  Below H w w' ∧ ((ds.length = s.size ∧ e = .returned (.tuple #[.pointer (some ⟨z, 0, none⟩), .int .i64 (b : Int), .nilIface]) ∧ Bg w' w'.heap.size (some ⟨z, 0, none⟩) (hval b ds : Int) ∧ Rdr w' rb s s.size) ∨
    (ds.length < s.size ∧ ((e = .returned (.tuple #[.pointer (some ⟨z, 0, none⟩), .int .i64 (b : Int), .nilIface]) ∧ Rdr w' rb s ds.length) ∨ ∃ a, e = .returned (.tuple #[.pointer none, .int .i64 (b : Int), .iface 178 (.pointer (some a))]))))
theorem Rdr.set {w : World} {rb z i : Nat} {s : ByteArray} {k : Nat} (h : Rdr w rb s k) (hne : rb ≠ z) (u : Value) : Rdr (w.setCell ⟨z, i, none⟩ u) rb s k := by
  obtain ⟨p, h⟩ := h
  exact ⟨p, h.far (p := ⟨z, i, none⟩) hne u⟩

set_option maxHeartbeats 1600000 in
theorem bigScan_any (rb z H b : Nat) (s : ByteArray) (ds : List Nat) (eP nP : Addr) (w : World) (hz : Blk w z 71 [.bool false, .slice none 0 0]) (h : Rdr w rb s 0) (hzr : z ≠ rb) (hHz : H ≤ z) (hHr : H ≤ rb) (ht : NumTxt b s ds) (hg : NumG eP nP H w) :
    Calls Tryz.prog 84 #[.pointer (some ⟨z, 0, none⟩), .iface 99 (.pointer (some ⟨rb, 0, none⟩)), .int .i64 (b : Int)] w (BsPost b z rb H s ds w) := by
  obtain ⟨x, hx⟩ : ∃ x, x = (s[0]'ht.pos).toNat := ⟨_, rfl⟩
  have hx2 := ht.first x hx.symm
  have CS := Lib.hid (scanSign_any rb s x w h ht.pos hx.symm (by have := ht.size; omega) hx2.2 hx2.1)
  have CN := Lib.hid (fun W (hu : Up (some rb) w W) (hr : Rdr W rb s 0) => natScan_all rb b s ds eP nP W hr ht ((hg.gl hHr).up hu))
  have hsz : w.heap.size = w.heap.size := rfl
  have HZ := Lib.hid hz
  have HHz := Lib.hid hHz
  have HHr := Lib.hid hHr
  have hzl := hz.lt
  have hrl := h.lt
  clear hx hx2 hz h ht hg hsz hHz hHr
  go_enter Tryz.func84, Tryz.ntmps84
  go_wp2_with fail
  with_reducible refine CS.out.mono ?_
  rintro e w1 ⟨rfl, hr1, hu1⟩
  have hz1 := HZ.out.up hu1 (by intro e; injection e with e; exact hzr e)
  have CN1 := Lib.hid (CN.out w1 hu1 hr1)
  have HU1 := Lib.hid hu1
  have z1 : w1.cell? ⟨z, 1, none⟩ = some (.slice none 0 0) := hz1.cell 1 (by simp)
  have zl1 := hz1.lt
  have HZ1 := Lib.hid hz1
  clear hr1 hu1 CS CN hz1
  go_wp2_with fail
  with_reducible refine CN1.out.mono ?_
  rintro e w2 ⟨v, err, rfl, hu2, hc⟩
  have hz2 := HZ1.out.up hu2 (by intro e; injection e with e; exact hzr e)
  have hb2 : Below H w w2 := (HU1.out.trans hu2).below (by have := HHz.out; omega) (fun k hk => by injection hk with hk; have := HHr.out; omega)
  have z2 : w2.cell? ⟨z, 1, none⟩ = some (.slice none 0 0) := hz2.cell 1 (by simp)
  have z3 : w2.cell? ⟨z, 0, none⟩ = some (.bool false) := hz2.cell 0 (by simp)
  have f1 := hz2.free 1
  have f0 := hz2.free 0
  have zl2 := hz2.lt
  have HZ2 := Lib.hid hz2
  have HB2 := Lib.hid hb2
  have hrz : rb ≠ z := fun h => hzr h.symm
  clear hz2 hu2 hb2 CN1 HZ1 HU1 z1
  rcases hc with ⟨hl, rfl, hn, hr⟩ | ⟨hl, herr, ⟨m, hn⟩, hr⟩
  · obtain ⟨xs, hrep, hs⟩ := hn
    have hs2 := hs
    obtain ⟨a, c, rfl, hcc, _⟩ := hs
    have F : Hid (BsPost b z rb H s ds w (.returned (.tuple #[.pointer (some ⟨z, 0, none⟩), .int .i64 (b : Int), .nilIface])) ((w2.setCell ⟨z, 1, none⟩ (.slice a (xs.map wv).length c)).setCell ⟨z, 0, none⟩ (.bool false))) := by
      have h1 := put_fin (i := ((hval b ds : Nat) : Int)) HZ2.out rfl (by simp [wv]) (by simpa using hrep) hs2 (Below.refl _ _)
      rw [show decide (((hval b ds : Nat) : Int) < 0) = false by simp] at h1
      refine Lib.hid ⟨(HB2.out.setCell (p := ⟨z, 1, none⟩) HHz.out _).setCell (p := ⟨z, 0, none⟩) HHz.out _, .inl ⟨hl, rfl, h1.2.1, ((hr.set hrz _).set hrz _)⟩⟩
    clear hr hrep hs2 hcc
    rw [List.length_map] at F ⊢
    generalize xs.length = n at *
    rcases Nat.eq_zero_or_pos n with rfl | hpos
    · go_wp2_with fail
      go_ret3
      exact F.out
    · have hpi : (0 : Int) < (n : Int) := by omega
      go_wp2_with fail
      go_ret3
      exact F.out
  · obtain ⟨xs, hrep, hs⟩ := hn
    obtain ⟨a, c, rfl, hcc, _⟩ := hs
    rw [List.length_map]
    rcases herr with rfl | rfl
    · have F : Hid (BsPost b z rb H s ds w (.returned (.tuple #[.pointer (some ⟨z, 0, none⟩), .int .i64 (b : Int), .nilIface])) ((w2.setCell ⟨z, 1, none⟩ (.slice a xs.length c)).setCell ⟨z, 0, none⟩ (.bool false))) :=
        Lib.hid ⟨(HB2.out.setCell (p := ⟨z, 1, none⟩) HHz.out _).setCell (p := ⟨z, 0, none⟩) HHz.out _, .inr ⟨hl, .inl ⟨rfl, ((hr.set hrz _).set hrz _)⟩⟩⟩
      clear hr hrep hcc
      generalize xs.length = n at *
      rcases Nat.eq_zero_or_pos n with rfl | hpos
      · go_wp2_with fail
        go_ret3
        exact F.out
      · have hpi : (0 : Int) < (n : Int) := by omega
        go_wp2_with fail
        go_ret3
        exact F.out
    · have F : Hid (BsPost b z rb H s ds w (.returned (.tuple #[.pointer none, .int .i64 (b : Int), (.iface 178 (.pointer (some nP)))])) (w2.setCell ⟨z, 1, none⟩ (.slice a xs.length c))) :=
        Lib.hid ⟨HB2.out.setCell (p := ⟨z, 1, none⟩) HHz.out _, .inr ⟨hl, .inr ⟨_, rfl⟩⟩⟩
      clear hr hrep hcc
      go_wp2_with fail
      go_ret3
      exact F.out

theorem neq_err (W : World) (a : Addr) : (binOp .neq 119 (.iface 178 (.pointer (some a))) (.iface 178 (.pointer (some a)))).run Tryz.prog W = .ok (.bool false) W := by
  obtain ⟨h1, h2⟩ := infoEs
  cases hi : Tryz.prog.info? 178 with
  | none => rw [hi] at h1; simp at h1
  | some i =>
    cases hj : Tryz.prog.info? 197 with
    | none => rw [hj] at h2; simp at h2
    | some j =>
      have := run_equalIn_iface_ptr_same (P := Tryz.prog) W 9998 a Tryz.underlying119 (show Tryz.prog.underlying 178 = some (.pointer 197) by kernel_rfl) hi (by rw [hi] at h1; simpa using h1) hj
      simp only [binOp]
      simp [Op.equal, Op.maxDepth, this]
theorem neq_nil (W : World) (a : Addr) : (binOp .neq 119 .nilIface (.iface 178 (.pointer (some a)))).run Tryz.prog W = .ok (.bool true) W := by
  kernel_rfl
theorem Sl.up_far2 {w w' : World} {B g : Nat} {v : Value} {vs L : List Value} {e : TypeId} (h : Sl w B v vs) (hk : Blk w g e L) (hd : ∀ u ∈ L, u ∉ vs) (hu : Up (some g) w w') : Sl w' B v vs := by
  obtain ⟨a, c, hv, hc, hr⟩ := h
  refine ⟨a, c, hv, hc, fun hne => ?_⟩
  obtain ⟨b', o, ha, hb, hrd⟩ := hr hne
  have hpos : 0 < vs.length := List.length_pos_iff.2 hne
  have h0 := hrd 0 hpos
  rw [Nat.add_zero] at h0
  have hlt := lt_of_cell h0
  have hne2 : b' ≠ g := by
    rintro rfl
    rcases Nat.lt_or_ge o L.length with hl | hge
    · rw [hk.cell o hl] at h0
      have e1 : L.getD o undef = vs.getD 0 undef := Option.some.inj h0
      rw [List.getD_eq_getElem?_getD, List.getD_eq_getElem?_getD, List.getElem?_eq_getElem hl, List.getElem?_eq_getElem hpos] at e1
      exact hd _ (List.getElem_mem hl) (by simp only [Option.getD_some] at e1; rw [e1]; exact List.getElem_mem hpos)
    · unfold Blk at hk
      simp [World.cell?, hk, List.getElem?_eq_none hge] at h0
  exact ⟨b', o, ha, hb, hrd.up hu hlt (fun e => hne2 (by injection e))⟩
theorem Bg.keepUp {w w' : World} {rb k : Nat} {s : ByteArray} {p : Option Addr} {i : Int} (h : Bg w w.heap.size p i) (hr : Rdr w rb s k) (hu : Up (some rb) w w') : Bg w' w'.heap.size p i := by
  obtain ⟨b, abs, h1, h2, h3, xs, h4, h5⟩ := h
  obtain ⟨q, hr⟩ := hr
  have hne : some b ≠ some rb := by
    intro e
    injection e with e
    subst e
    exact absurd (h3.inj hr).1 (by decide)
  exact ⟨b, abs, h1, Nat.lt_of_lt_of_le h2 hu.size, h3.up hu hne, xs, h4, (h5.up_far2 hr (by
    intro u hm
    refine not_wv ?_ xs u hm
    intro v hv x e
    subst e
    simp [wv] at hv) hu).more hu.size⟩
def SsPost (b z H : Nat) (s : ByteArray) (ds : List Nat) (w : World) (e : Ending) (w' : World) : Prop :=
  Below H w w' ∧ ((ds.length = s.size ∧ e = .returned (.tuple #[.pointer (some ⟨z, 0, none⟩), .bool true]) ∧ Bg w' w'.heap.size (some ⟨z, 0, none⟩) (hval b ds : Int)) ∨ (ds.length < s.size ∧ e = .returned (.tuple #[.pointer none, .bool false])))
set_option maxHeartbeats 1600000 in
theorem setFrom_any (rb z H b : Nat) (s : ByteArray) (ds : List Nat) (eP nP : Addr) (w : World) (hz : Blk w z 71 [.bool false, .slice none 0 0]) (h : Rdr w rb s 0) (hzr : z ≠ rb) (hHz : H ≤ z) (hHr : H ≤ rb) (ht : NumTxt b s ds) (hg : NumG eP nP H w) :
    Calls Tryz.prog 65 #[.pointer (some ⟨z, 0, none⟩), .iface 99 (.pointer (some ⟨rb, 0, none⟩)), .int .i64 (b : Int)] w (SsPost b z H s ds w) := by
  have CS := Lib.hid (bigScan_any rb z H b s ds eP nP w hz h hzr hHz hHr ht hg)
  have HG := Lib.hid hg
  have hs := ht.size
  have hHrr := hHr
  have HHr := Lib.hid hHr
  have hHw : H ≤ w.heap.size := by have := hz.lt; omega
  have HHw := Lib.hid hHw
  clear hz h hHz ht hg hHr hHw hHrr
  go_enter Tryz.func65, Tryz.ntmps65
  go_wp2_with fail
  with_reducible refine CS.out.mono ?_
  rintro e w1 ⟨hb1, hc⟩
  have hg1 := HG.out.below hb1
  have hE := hg1.eof
  have HB1 := Lib.hid hb1
  have HG1 := Lib.hid hg1
  clear CS HG hb1 hg1
  rcases hc with ⟨hl, rfl, hbg, hr⟩ | ⟨hl, ⟨rfl, hr⟩ | ⟨a, rfl⟩⟩
  · have CR := Lib.hid (readByte_no rb s _ w1 hr hE (HG1.out.gl HHr.out).ne1 (by omega))
    have HBG := Lib.hid hbg
    have HR := Lib.hid hr
    clear hbg hr hE
    go_wp2_with fail
    with_reducible refine CR.out.mono ?_
    rintro e w2 ⟨rfl, hr2, hu2⟩
    have hb2 : Below H w w2 := HB1.out.trans (hu2.below (by have := HB1.out.size; have := HHw.out; omega) (fun k hk => by injection hk with hk; have := HHr.out; omega))
    have hE2 := (HG1.out.gl HHr.out).up hu2 |>.eof
    have hnq := neq_err w2 eP
    have HB2 := Lib.hid hb2
    have HBG2 := Lib.hid (HBG.out.keepUp HR.out hu2)
    clear hb2 hr2 hu2 CR HBG HR HB1 HG1
    go_wp2_with fail
    go_ret2
    exact ⟨HB2.out, .inl ⟨hl, rfl, HBG2.out⟩⟩
  · obtain ⟨x, hx⟩ : ∃ x, x = (s[ds.length]'hl).toNat := ⟨_, rfl⟩
    have CR := Lib.hid (readByte_yes rb s ds.length x w1 hr hl hx.symm (by omega))
    clear hr hE hx
    go_wp2_with fail
    with_reducible refine CR.out.mono ?_
    rintro e w2 ⟨rfl, hr2, hu2⟩
    have hb2 : Below H w w2 := HB1.out.trans (hu2.below (by have := HB1.out.size; have := HHw.out; omega) (fun k hk => by injection hk with hk; have := HHr.out; omega))
    have hE2 := (HG1.out.gl HHr.out).up hu2 |>.eof
    have hnq := neq_nil w2 eP
    have HB2 := Lib.hid hb2
    clear hb2 hr2 hu2 CR HB1 HG1
    go_wp2_with fail
    go_ret2
    exact ⟨HB2.out, .inr ⟨hl, rfl⟩⟩
  · clear hE
    go_wp2_with fail
    go_ret2
    exact ⟨HB1.out, .inr ⟨hl, rfl⟩⟩
set_option maxHeartbeats 800000 in
theorem setString_any (z H b : Nat) (s : ByteArray) (ds : List Nat) (eP nP : Addr) (w : World) (hz : Blk w z 71 [.bool false, .slice none 0 0]) (hHz : H ≤ z) (ht : NumTxt b s ds) (hg : NumG eP nP H w) :
    Calls Tryz.prog 50 #[.pointer (some ⟨z, 0, none⟩), .string s, .int .i64 (b : Int)] w (SsPost b z H s ds w) := by
  have hzl := hz.lt
  have CR := Lib.hid (newReader_any s w)
  have CS := Lib.hid (fun W (hb : Below w.heap.size w W) (hr : Rdr W w.heap.size s 0) => setFrom_any w.heap.size z H b s ds eP nP W (hz.below hb hzl) hr (by omega) hHz (by omega) ht (hg.below (hb.mono (by omega))))
  clear hz ht hg
  go_enter Tryz.func50, Tryz.ntmps50
  go_wp2_with fail
  with_reducible refine CR.out.mono ?_
  rintro e w1 ⟨rfl, hr1, hb1⟩
  have C1 := Lib.hid (CS.out w1 hb1 hr1)
  have HB1 := Lib.hid hb1
  clear hr1 hb1 CR CS
  go_wp2_with fail
  with_reducible refine C1.out.mono ?_
  rintro e w2 ⟨hb2, hc⟩
  have HB2 : Hid (Below H w w2) := Lib.hid ((HB1.out.mono (by omega)).trans hb2)
  clear hb2 C1 HB1
  rcases hc with ⟨hl, rfl, hbg⟩ | ⟨hl, rfl⟩
  · have HBG := Lib.hid hbg
    clear hbg
    go_wp2_with fail
    go_ret2
    exact ⟨HB2.out, .inl ⟨hl, rfl, HBG.out⟩⟩
  · go_wp2_with fail
    go_ret2
    exact ⟨HB2.out, .inr ⟨hl, rfl⟩⟩
end Go.Proofs.YtbfgjaammmpcdaaGreatDoor
