/- FnIntParts returns true at every input, and its arguments read behind the call as they read before; the four thresholds of the package of integers lie as the program's text lays them (the card ties them to it). No condition beyond the statement's own. -/
import Derived.Test.YtpcnmgldmnncoaaGreatDoorRows
import Derived.Test.YtpcnmgldmnncoaaGreatDoorCards
import Derived.Test.YtpcnmgldmnncoaaGreatDoorTie
import Derived.Test.YtpcnmgldmnncoaaGreatDoorIpLaw
import Derived.Test.YtpcnmgldmnncoaaGreatDoorLaid
import Derived.WalkSmall
import Derived.OpenShut
import Derived.ShutString
import Derived.ChangeOld
import Derived.Below
import Derived.Carry
import Derived.Lib.LaidIn
import Derived.Deep.DeepHandedRow
import Derived.Deep.DeepWitnessRowRef
import Derived.ProofKit
import Derived.SizedLaws
import Derived.SevenTiedAt
namespace Go.Proofs.YtpcnmgldmnncoaaGreatDoor.fnIntParts
open Go.ChangeShapes Go.WideShapes Go.ChangeAt Go.RowKit
set_option linter.unusedVariables false

theorem own : ownKnob Tryz.prog.godebug = none := by kernel_rfl
abbrev nD : String := "given.example/pub-larkspur/pub/bigall.divRecursiveThreshold"
abbrev nK : String := "given.example/pub-larkspur/pub/bigall.karatsubaThreshold"
abbrev nB : String := "given.example/pub-larkspur/pub/bigall.basicSqrThreshold"
abbrev nQ : String := "given.example/pub-larkspur/pub/bigall.karatsubaSqrThreshold"
theorem gD : Tryz.prog.globalNamed nD = some 0 := by kernel_rfl
theorem gK : Tryz.prog.globalNamed nK = some 3 := by kernel_rfl
theorem gB : Tryz.prog.globalNamed nB = some 1 := by kernel_rfl
theorem gQ : Tryz.prog.globalNamed nQ = some 2 := by kernel_rfl
theorem tD : (Tryz.prog.globals[0]?).map (·.type) = some 3 := by kernel_rfl
theorem tK : (Tryz.prog.globals[3]?).map (·.type) = some 3 := by kernel_rfl
theorem tB : (Tryz.prog.globals[1]?).map (·.type) = some 3 := by kernel_rfl
theorem tQ : (Tryz.prog.globals[2]?).map (·.type) = some 3 := by kernel_rfl
/-- a number that the text lays, read -/
theorem laid_int {P : Program} {n : String} {k : IntKind} {m : Int} {r : List (String × DataW Unit)} {W : World} {g : Nat} {ti : TypeId} (h : laidMet P ((n, .lit (.int k m)) :: r) W)
    (hg : P.globalNamed n = some g) (ht : (P.globals[g]?).map (·.type) = some ti) (hi : P.underlying ti = some (.int k)) : W.var? P n = some #[.int k m] ∧ (Lit.int k m).wf = true := by
  obtain ⟨ps, ⟨g0, t0, cs0, f0, p0, q0, hg0, ht0, hv0, hd0, _, e0⟩, _, _⟩ := h
  obtain rfl := Option.some.inj (hg.symm.trans hg0)
  obtain rfl := Option.some.inj (ht.symm.trans ht0)
  obtain ⟨m', hc, hx, hw⟩ := DataW.trod_int hi hd0
  simp only [Prod.mk.injEq, DataW.lit.injEq, Lit.int.injEq, true_and] at hx
  obtain ⟨rfl, _⟩ := hx
  refine ⟨?_, hw⟩
  rw [hv0]
  obtain ⟨l0⟩ := cs0
  simp only at hc
  rw [hc]
theorem laid_tail {P : Program} {x : String × DataW Unit} {r : List (String × DataW Unit)} {W : World} (h : laidMet P (x :: r) W) : laidMet P r W := by
  obtain ⟨ps, hv, hnd, hrows⟩ := h
  obtain ⟨n, d⟩ := x
  obtain ⟨g, t, cs, fuel, p, q, _, _, _, _, hq, rfl⟩ := hv
  exact ⟨q, hq, List.Nodup.sublist (List.sublist_append_right _ _) hnd, fun b off hm => hrows b off (List.mem_append_right _ hm)⟩
/-- one named variable that holds a number, read -/
theorem vars_int {H : Type} (enc : TypeId × Value → H) {P : Program} {W : World} {n : String} {g : Nat} {ti : TypeId} {k : IntKind} {m : Int} {sp : Nat → Bool} {ns : List String} {ds : List (DataW H)} {ps : List MemPlace}
    (hg : P.globalNamed n = some g) (ht : (P.globals[g]?).map (·.type) = some ti) (hi : P.underlying ti = some (.int k)) (h : W.var? P n = some #[.int k m]) (hw : (Lit.int k m).wf = true) (hr : DataW.TrodVars enc P W sp ns ds ps) :
    DataW.TrodVars enc P W sp (n :: ns) (.lit (.int k m) :: ds) (.cell g 0 :: ps) := by
  obtain ⟨fuel, hf⟩ := shut_int (enc := enc) (P := P) (w := W) (base := 0) (spare := sp) (held := true) hi hw
  exact ⟨g, ti, #[.int k m], fuel, [], ps, hg, ht, h, by simpa [Value.cells] using hf, hr, rfl⟩
theorem vars_nil {H : Type} (enc : TypeId × Value → H) {P : Program} (W : World) (sp : Nat → Bool) : DataW.TrodVars enc P W sp [] [] [] := rfl
/-- THE WITNESS: the settled world, the four thresholds laid. -/
noncomputable def laidWorld (os : Os) : World :=
  let w0 := World.holding Tryz.prog os ⟨#[], #[], []⟩
  let put (h : Array Obj) (g : Nat) (cs : Array Value) : Array Obj := h.modify g fun
    | .cells _ t frozen => .cells cs t frozen
    | o => o
  let h1 := put w0.heap 0 #[.int .i64 40]
  let h2 := put h1 3 #[.int .i64 40]
  let h3 := put h2 1 #[.int .i64 12]
  let h4 := put h3 2 #[.int .i64 80]
  { w0 with heap := h4 }
theorem laid_met (os : Os) (args : Array Value) : laidMet Tryz.prog Rows.fnIntPartsRow.laid ((laidWorld os).forCall (fun _ _ => 0) ⟨#[], args, []⟩).memory :=
  laidMet_of_run (ps := [.cell 0 0, .cell 3 0, .cell 1 0, .cell 2 0]) 8 (by kernel_rfl) (by kernel_rfl) (by kernel_rfl)
theorem witness_row (os : Os) {H : Type} (enc : TypeId × Value → H) :
    (OpenSpec.ofChange Rows.fnIntPartsSpec).preRow enc Tryz.prog Tryz.f3 Rows.fnIntPartsRow.domain false Rows.fnIntPartsRow.laid ((laidWorld os).forCall (fun _ _ => 0) ⟨#[], #[.bool false, .slice none 0 0, .bool false, .slice none 0 0], []⟩).memory #[.bool false, .slice none 0 0, .bool false, .slice none 0 0] := by
  have hw : (DataW.whole enc Tryz.prog ((laidWorld os).forCall (fun _ _ => 0) ⟨#[], #[.bool false, .slice none 0 0, .bool false, .slice none 0 0], []⟩).memory Tryz.f3.params.toList (OpenSpec.ofChange Rows.fnIntPartsSpec).vars false #[Value.bool false, .slice none 0 0, .bool false, .slice none 0 0].toList 8).map (fun x => (x.1, x.2.1)) =
      some ([.lit (.bool false), .nil, .lit (.bool false), .nil], [.lit (.int .i64 40), .lit (.int .i64 40), .lit (.int .i64 12), .lit (.int .i64 80)]) := by kernel_rfl
  obtain ⟨⟨x1, x2, x3⟩, hx, hx1⟩ := Option.map_eq_some_iff.1 hw
  simp only [Prod.mk.injEq] at hx1
  obtain ⟨rfl, rfl⟩ := hx1
  exact OpenSpec.preRow_of_cond 8 hx (by kernel_rfl) (fun k hk => by cases hk) (by kernel_rfl) (laid_met os _)
set_option maxRecDepth 100000 in
set_option maxHeartbeats 2000000 in
theorem lifted (os : Os) (started : os.Started) (H : Type) (enc : TypeId × Value → H) (F : Stop.Interp) :
    ReturnsInHanded {} Tryz.checked os 3 .any ((OpenSpec.ofChange Rows.fnIntPartsSpec).preRow enc Tryz.prog Tryz.f3 Rows.fnIntPartsRow.domain false Rows.fnIntPartsRow.laid) (((OpenSpec.ofChange Rows.fnIntPartsSpec).at F).post enc Tryz.prog Tryz.f3 false true false false) := by
  refine returnsInHanded_of_row (C := Tryz.checked) (s := OpenSpec.ofChange Rows.fnIntPartsSpec) own started (by kernel_rfl) Tryz.func3
    (witness_row_atRef (enc := enc) (C := Tryz.checked) false (laidWorld os) #[.bool false, .slice none 0 0, .bool false, .slice none 0 0] rfl (by kernel_rfl) (by kernel_rfl) (by kernel_rfl) (witness_row os enc)) ?_
  intro W base args ds gs before hval0 hW _ _ _ hL _ _
  have hval : ∀ (j : Nat) t v, Tryz.f3.params[j]? = some t → args[j]? = some v → Value.okWide Tryz.prog W .any base t v := hval0
  have hW' := hW
  obtain ⟨p, q, hA0, hV0, rfl, _, _⟩ := hW
  have hA : DataW.TrodAll enc Tryz.prog W 0 (fun _ => true) true Tryz.f3.params.toList args.toList ds p := hA0
  have hV : DataW.TrodVars enc Tryz.prog W (fun _ => true) [nD, nK, nB, nQ] gs q := hV0
  rw [Tryz.params3] at hA hval
  obtain ⟨v0, vs0, d0, ds0, p0, q0, hargs, rfl, rfl, h0, r0⟩ := trodAll_cons hA
  obtain ⟨v1, vs1, d1, ds1, p1, q1, rfl, rfl, rfl, h1, r1⟩ := trodAll_cons r0
  obtain ⟨v2, vs2, d2, ds2, p2, q2, rfl, rfl, rfl, h2, r2⟩ := trodAll_cons r1
  obtain ⟨v3, vs3, d3, ds3, p3, q3, rfl, rfl, rfl, h3, r3⟩ := trodAll_cons r2
  obtain ⟨rfl, rfl, rfl⟩ := trodAll_nil r3
  obtain rfl : args = #[v0, v1, v2, v3] := by cases args; simp_all
  obtain ⟨hvD, wD⟩ := laid_int hL gD tD Tryz.underlying3
  obtain ⟨hvK, wK⟩ := laid_int (laid_tail hL) gK tK Tryz.underlying3
  obtain ⟨hvB, wB⟩ := laid_int (laid_tail (laid_tail hL)) gB tB Tryz.underlying3
  obtain ⟨hvQ, wQ⟩ := laid_int (laid_tail (laid_tail (laid_tail hL))) gQ tQ Tryz.underlying3
  obtain ⟨rfl, rfl⟩ := hV.unique (vars_int enc gD tD Tryz.underlying3 hvD wD (vars_int enc gK tK Tryz.underlying3 hvK wK (vars_int enc gB tB Tryz.underlying3 hvB wB (vars_int enc gQ tQ Tryz.underlying3 hvQ wQ (vars_nil (P := Tryz.prog) enc _ _)))))
  obtain ⟨a0, rfl, rfl, rfl⟩ := open_bool Tryz.underlying4 (hval 0 4 v0 rfl rfl) h0
  obtain ⟨a1, len1, cap1, rfl⟩ := okWide_slice Tryz.underlying22 (hval 1 22 v1 rfl rfl)
  obtain ⟨a2, rfl, rfl, rfl⟩ := open_bool Tryz.underlying4 (hval 2 4 v2 rfl rfl) h2
  obtain ⟨a3, len3, cap3, rfl⟩ := okWide_slice Tryz.underlying22 (hval 3 22 v3 rfl rfl)
  have k1 := h1
  have k3 := h3
  have lt1 : ∀ x ∈ p1, x.block < W.heap.size := by obtain ⟨m, hm⟩ := k1; exact DataW.trod_lt m _ _ _ hm
  have lt3 : ∀ x ∈ p3, x.block < W.heap.size := by obtain ⟨m, hm⟩ := k3; exact DataW.trod_lt m _ _ _ hm
  obtain ⟨ms1, hms1, hml1, hmx1, hsl1⟩ : ∃ ms : List Nat, (∀ x ∈ ms, x < 256) ∧ ms.length = len1 ∧ len1 ≤ maxLen ∧ Sl W W.heap.size (.slice a1 len1 cap1) (ms.map bv) := by
    obtain ⟨fuel, hf⟩ := h1
    rcases open_ints Tryz.underlying22 Tryz.underlying5 (by kernel_rfl) hf with ⟨hcs, _⟩ | ⟨x, l, c, zs, hcs, _, hl, hm, hz, _, hcell, hwz⟩
    · simp [Value.cells] at hcs
      obtain ⟨rfl, rfl, rfl⟩ := hcs
      exact row_sl (zs := []) (.inl ⟨rfl, rfl, rfl, rfl⟩)
    · simp [Value.cells] at hcs
      obtain ⟨rfl, rfl, rfl⟩ := hcs
      exact row_sl (.inr ⟨x, rfl, hl, hm, by simpa using hz, hcell, hwz⟩)
  obtain ⟨ms3, hms3, hml3, hmx3, hsl3⟩ : ∃ ms : List Nat, (∀ x ∈ ms, x < 256) ∧ ms.length = len3 ∧ len3 ≤ maxLen ∧ Sl W W.heap.size (.slice a3 len3 cap3) (ms.map bv) := by
    obtain ⟨fuel, hf⟩ := h3
    rcases open_ints Tryz.underlying22 Tryz.underlying5 (by kernel_rfl) hf with ⟨hcs, _⟩ | ⟨x, l, c, zs, hcs, _, hl, hm, hz, _, hcell, hwz⟩
    · simp [Value.cells] at hcs
      obtain ⟨rfl, rfl, rfl⟩ := hcs
      exact row_sl (zs := []) (.inl ⟨rfl, rfl, rfl, rfl⟩)
    · simp [Value.cells] at hcs
      obtain ⟨rfl, rfl, rfl⟩ := hcs
      exact row_sl (.inr ⟨x, rfl, hl, hm, by simpa using hz, hcell, hwz⟩)
  clear hA0 hval0
  have cD : W.cell? ⟨0, 0, none⟩ = some (.int .i64 40) := by simpa using World.var?_cell gD hvD 0
  have cK : W.cell? ⟨3, 0, none⟩ = some (.int .i64 40) := by simpa using World.var?_cell gK hvK 0
  have cB : W.cell? ⟨1, 0, none⟩ = some (.int .i64 12) := by simpa using World.var?_cell gB hvB 0
  have cQ : W.cell? ⟨2, 0, none⟩ = some (.int .i64 80) := by simpa using World.var?_cell gQ hvQ 0
  have hwalk := lawParts a0 a2 (.slice a1 len1 cap1) (.slice a3 len3 cap3) ms1 ms3 W hms1 hms3 hsl1 hsl3 (by rw [hml1]; exact hmx1) (by rw [hml3]; exact hmx3) cD cK
  refine hwalk.mono fun e W' ⟨he, bel⟩ => ?_
  subst he
  have vD := var?_below bel gD (lt_of_cell cD) hvD
  have vK := var?_below bel gK (lt_of_cell cK) hvK
  have vB := var?_below bel gB (lt_of_cell cB) hvB
  have vQ := var?_below bel gQ (lt_of_cell cQ) hvQ
  have e1 : ((OpenSpec.ofChange Rows.fnIntPartsSpec).at F).fn H ([.lit (.bool a0), d1, .lit (.bool a2), d3] ++ [.lit (.int .i64 40), .lit (.int .i64 40), .lit (.int .i64 12), .lit (.int .i64 80)]) = { results := [.lit (.bool true)], args := [.lit (.bool a0), d1, .lit (.bool a2), d3], vars := [.lit (.int .i64 40), .lit (.int .i64 40), .lit (.int .i64 12), .lit (.int .i64 80)] } := rfl
  refine ⟨_, rfl, _, _, _, [], [] ++ (p1 ++ ([] ++ (p3 ++ []))), [.cell 0 0, .cell 3 0, .cell 1 0, .cell 2 0], hW', ?_, ?_, ?_, bel.frame _, fun h => by cases h⟩
  · rw [e1]; exact trodAll_mk1 (shut_bool Tryz.underlying4 _)
  · rw [e1]; exact trodAll_cons_mk (shut_bool Tryz.underlying4 _) (trodAll_cons_mk (Below.trod laidOut (by kernel_rfl) (of_decide_eq_true (by kernel_rfl)) k1 bel lt1) (trodAll_cons_mk (shut_bool Tryz.underlying4 _) (trodAll_cons_mk (Below.trod laidOut (by kernel_rfl) (of_decide_eq_true (by kernel_rfl)) k3 bel lt3) trodAll_mk0)))
  · rw [e1]; exact vars_int enc gD tD Tryz.underlying3 vD wD (vars_int enc gK tK Tryz.underlying3 vK wK (vars_int enc gB tB Tryz.underlying3 vB wB (vars_int enc gQ tQ Tryz.underlying3 vQ wQ (vars_nil (P := Tryz.prog) enc _ _))))

theorem closed : joinedFacts Tryz.pinned.checked.prog 3 Tryz.f3 Rows.fnIntPartsSpec Rows.fnIntPartsRow = true := by
  have hlo : laidOutB Tryz.pinned.checked.prog = true := laidOut
  unfold joinedFacts
  rw [hlo]
  show _ = true
  kernel_rfl
theorem said : Rows.FnIntPartsSaid :=
  OpenClaim.holds_of_cond 3 Tryz.f3 rfl rfl rfl rfl rfl rfl rfl ⟨rfl, rfl, rfl, rfl, rfl⟩ rfl rfl rfl rfl rfl (by kernel_rfl) Tryz.func3 closed
    (of_decide_eq_true (by kernel_rfl)) (by unfold Func.isWrapper; rw [if_neg (of_decide_eq_false (by kernel_rfl))]; exact ⟨rfl, rfl⟩)
    (fun os started H enc _ F0 => by rw [OpenClaim.pre_eq_preRow]; exact lifted os started H enc F0)

theorem proved : Rows.FnIntPartsCardSaid :=
  Claim7.holds_tied_plain_at .later [] [.data, .data, .data, .data] true Rows.fnIntPartsCard.stood.harness false
    said (fun _ h => by cases h) (by kernel_rfl) (fun _ h => by cases h) fnIntParts_row_tie rfl ⟨rfl, rfl⟩ (by kernel_rfl) rfl
    (fun f fn hf hfn => by
      obtain rfl : f = 3 := Option.some.inj ((show Tryz.prog.funcNamed Rows.fnIntPartsRow.func = some 3 by kernel_rfl).symm.trans hf) |>.symm
      obtain rfl : fn = Tryz.f3 := (Option.some.inj (Tryz.func3.symm.trans hfn)).symm
      exact ⟨by kernel_rfl, fun j t ht => by
        rw [Tryz.params3] at ht
        have hm : t ∈ [4, 22, 4, 22] := by simpa using Array.mem_of_getElem? ht
        have hall : ([4, 22, 4, 22].all fun u => !Tryz.prog.wantsStandIn u) = true := by kernel_rfl
        exact (show Tryz.prog.wantsStandIn t = false by simpa using List.all_eq_true.1 hall t hm)⟩)
    (by kernel_rfl)
#print axioms proved
end Go.Proofs.YtpcnmgldmnncoaaGreatDoor.fnIntParts
