/- FnTranscoded returns true at every input, and its argument reads behind the call as it read before; the two tables of the library's decoder lie as the program's text lays them (the card ties them to it). No condition beyond the statement's own. -/
import Derived.Test.YtocobkjmbngjgaaDoorRows
import Derived.Test.YtocobkjmbngjgaaDoorCards
import Derived.Test.YtocobkjmbngjgaaDoorTie
import Derived.Test.YtocobkjmbngjgaaDoorTrLaw
import Derived.Lib.LaidIn
import Derived.Lib.LaidU8T
import Derived.Deep.DeepHandedRow
import Derived.Deep.DeepWitnessRowRef
import Derived.ProofKit
import Derived.SizedLaws
import Derived.SevenTiedAt
namespace Go.Proofs.YtocobkjmbngjgaaDoor
open Go.Shelf
open Go.ChangeShapes Go.WideShapes Go.ChangeAt Go.RowKit Go.Lib
open Go.ChangeMaps (open_string shut_string)

theorem fnTranscoded.own : ownKnob Tryd.prog.godebug = none := by kernel_rfl
theorem first_same : (Rows.laid_unicode_utf8_first : DataW Unit) = Go.Lib.firstData := by kernel_rfl
theorem accept_same : (Rows.laid_unicode_utf8_acceptRanges : DataW Unit) = Go.Lib.acceptData := by kernel_rfl

/-- THE WITNESS: the settled world, the two variables holding what their texts lay. -/
noncomputable def laidWorld (os : Os) : World :=
  let w0 := World.holding Tryd.prog os ⟨#[], #[], []⟩
  let put (h : Array Obj) (g : Nat) (cs : Array Value) : Array Obj := h.modify g fun
    | .cells _ t frozen => .cells cs t frozen
    | o => o
  let h1 := put w0.heap 0 (Go.Lib.firstTab.map fun z => Value.int .u8 z).toArray
  let h2 := put h1 1 ((List.range 16).flatMap fun i => [Value.int .u8 (Go.Lib.accLo i), Value.int .u8 (Go.Lib.accHi i)]).toArray
  { w0 with heap := h2 }
theorem laid_met (os : Os) (args : Array Value) : laidMet Tryd.prog Rows.fnTranscodedRow.laid ((laidWorld os).forCall (fun _ _ => 0) ⟨#[], args, []⟩).memory :=
  (LaidIn.of_run (l := [("unicode/utf8.acceptRanges", Rows.laid_unicode_utf8_acceptRanges), ("unicode/utf8.first", Rows.laid_unicode_utf8_first)]) [1, 0] 8 (by kernel_rfl) (by kernel_rfl) (by kernel_rfl) (by kernel_rfl)).met

theorem witness_row (os : Os) {H : Type} (enc : TypeId × Value → H) :
    (OpenSpec.ofChange Rows.fnTranscodedSpec).preRow enc Tryd.prog Tryd.f3 Rows.fnTranscodedRow.domain false Rows.fnTranscodedRow.laid ((laidWorld os).forCall (fun _ _ => 0) ⟨#[], #[.string ⟨#[]⟩], []⟩).memory #[.string ⟨#[]⟩] := by
  have hw : (DataW.whole enc Tryd.prog ((laidWorld os).forCall (fun _ _ => 0) ⟨#[], #[.string ⟨#[]⟩], []⟩).memory Tryd.f3.params.toList (OpenSpec.ofChange Rows.fnTranscodedSpec).vars false #[Value.string ⟨#[]⟩].toList 8).map (fun x => (x.1, x.2.1)) =
      some ([.lit (.string [])], []) := by kernel_rfl
  obtain ⟨⟨x1, x2, x3⟩, hx, hx1⟩ := Option.map_eq_some_iff.1 hw
  simp only [Prod.mk.injEq] at hx1
  obtain ⟨rfl, rfl⟩ := hx1
  exact OpenSpec.preRow_of_cond 8 hx (by kernel_rfl) (fun k hk => by cases hk) (by kernel_rfl) (laid_met os _)

set_option maxRecDepth 100000 in
set_option maxHeartbeats 2000000 in
theorem lifted (os : Os) (started : os.Started) (H : Type) (enc : TypeId × Value → H) (F : Stop.Interp) :
    ReturnsInHanded {} Tryd.checked os 3 .any ((OpenSpec.ofChange Rows.fnTranscodedSpec).preRow enc Tryd.prog Tryd.f3 Rows.fnTranscodedRow.domain false Rows.fnTranscodedRow.laid) (((OpenSpec.ofChange Rows.fnTranscodedSpec).at F).post enc Tryd.prog Tryd.f3 false true false false) := by
  refine returnsInHanded_of_row (C := Tryd.checked) (s := OpenSpec.ofChange Rows.fnTranscodedSpec) fnTranscoded.own started (by kernel_rfl) Tryd.func3
    (witness_row_atRef (enc := enc) (C := Tryd.checked) false (laidWorld os) #[.string ⟨#[]⟩] rfl (by kernel_rfl) (by kernel_rfl) (by kernel_rfl) (witness_row os enc)) ?_
  intro W base args ds gs before hval0 hW _ _ _ hL _ _
  have hval : ∀ (j : Nat) t v, Tryd.f3.params[j]? = some t → args[j]? = some v → Value.okWide Tryd.prog W .any base t v := hval0
  have hW' := hW
  obtain ⟨p, q, hA0, hV0, rfl, _, _⟩ := hW
  have hA : DataW.TrodAll enc Tryd.prog W 0 (fun _ => true) true Tryd.f3.params.toList args.toList ds p := hA0
  rw [Tryd.params3] at hA hval
  obtain ⟨v0, d0, rfl, rfl, h0⟩ := trodAll_one hA
  obtain ⟨rfl, rfl⟩ := trodVars_none hV0
  obtain ⟨s, rfl, rfl, rfl, ws⟩ := open_string Tryd.underlying9 (hval 0 9 v0 rfl rfl) h0
  clear hA0 hV0 hval0
  have r3 : VarReads Tryd.prog W "unicode/utf8.first" Go.Lib.firstData := by
    rw [← first_same]
    exact Go.Lib.laidMet.reads hL (.tail _ (.head _))
  have r4 : VarReads Tryd.prog W "unicode/utf8.acceptRanges" Go.Lib.acceptData := by
    rw [← accept_same]
    exact Go.Lib.laidMet.reads hL (.head _)
  have htab : Tabs W :=
    utf8Tabs_of_readsT (U8Types.of196 lays196) ⟨by kernel_rfl, by kernel_rfl, by kernel_rfl, by kernel_rfl, by kernel_rfl, by kernel_rfl, by kernel_rfl⟩ r3 r4
  refine (lawTr s W htab).mono ?_
  rintro e W' ⟨rfl, bel⟩
  have e1 : ((OpenSpec.ofChange Rows.fnTranscodedSpec).at F).fn H ([.lit (.string s.data.toList)] ++ []) = { results := [.lit (.bool true)], args := [.lit (.string s.data.toList)] } := rfl
  refine ⟨_, rfl, _, _, _, [], [], [], hW', ?_, ?_, ?_, bel.frame _, fun h => by cases h⟩
  · rw [e1]; exact trodAll_mk1 (shut_bool Tryd.underlying4 _)
  · rw [e1]; exact trodAll_mk1 (shut_string Tryd.underlying9 ws)
  · rw [e1]; rfl

theorem said : Rows.FnTranscodedSaid :=
  OpenClaim.holds_of_cond 3 Tryd.f3 rfl rfl rfl rfl rfl rfl rfl ⟨rfl, rfl, rfl, rfl, rfl⟩ rfl rfl rfl rfl rfl (by kernel_rfl) Tryd.func3 (by kernel_rfl)
    (of_decide_eq_true (by kernel_rfl)) (by unfold Func.isWrapper; rw [if_neg (of_decide_eq_false (by kernel_rfl))]; exact ⟨rfl, rfl⟩)
    (fun os started H enc _ F0 => by rw [OpenClaim.pre_eq_preRow]; exact lifted os started H enc F0)

theorem fnTranscoded.proved : Rows.FnTranscodedCardSaid :=
  Claim7.holds_tied_plain_at .later [] [.data, .pinned] true Rows.fnTranscodedCard.stood.harness false
    said (fun _ h => by cases h) (by kernel_rfl) (fun _ h => by cases h) fnTranscoded_row_tie rfl ⟨rfl, rfl⟩ (by kernel_rfl) rfl
    (fun f fn hf hfn => by
      obtain rfl : f = 3 := Option.some.inj ((show Tryd.prog.funcNamed Rows.fnTranscodedRow.func = some 3 by kernel_rfl).symm.trans hf) |>.symm
      obtain rfl : fn = Tryd.f3 := (Option.some.inj (Tryd.func3.symm.trans hfn)).symm
      exact ⟨by kernel_rfl, fun j t ht => by
        rw [Tryd.params3] at ht
        have hm : t ∈ [9] := by simpa using Array.mem_of_getElem? ht
        have hall : ([9].all fun u => !Tryd.prog.wantsStandIn u) = true := by kernel_rfl
        exact (show Tryd.prog.wantsStandIn t = false by simpa using List.all_eq_true.1 hall t hm)⟩)
    (by kernel_rfl)
#print axioms fnTranscoded.proved
end Go.Proofs.YtocobkjmbngjgaaDoor
