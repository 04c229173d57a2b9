/- FnQuote returns true at every input, and its argument reads behind the call as it read before; the six tables of the library (utf8's two, strconv's four of what is printed) lie as the program's text lays them (the card ties them to it). No condition beyond the statement's own. -/
import Derived.Test.YtoghnefgflkpdaaDoorRows
import Derived.Test.YtoghnefgflkpdaaDoorCards
import Derived.Test.YtoghnefgflkpdaaDoorTie
import Derived.Test.YtoghnefgflkpdaaDoorQuoLaw
import Derived.Lib.LaidIn
import Derived.Lib.LaidSlice
import Derived.Lib.LaidPrint
import Derived.Lib.LaidU8T
import Derived.Deep.DeepHandedRow
import Derived.Deep.DeepWitnessRowRef
import Derived.ProofKit
import Derived.SizedLaws
import Derived.SevenTiedAt
namespace Go.Proofs.YtoghnefgflkpdaaDoor
open Go.Shelf
open Go.ChangeShapes Go.WideShapes Go.ChangeAt Go.RowKit Go.Lib
open Go.ChangeMaps (open_string shut_string)

theorem fnQuote.own : ownKnob Tryd.prog.godebug = none := by kernel_rfl
theorem first_same : (Rows.laid_unicode_utf8_first : DataW Unit) = Go.Lib.firstData := by kernel_rfl
theorem accept_same : (Rows.laid_unicode_utf8_acceptRanges : DataW Unit) = Go.Lib.acceptData := by kernel_rfl
theorem p16_same : (Rows.laid_strconv_isPrint16 : DataW Unit) = sliceData .u16 goPrintTabs.p16 := by kernel_rfl
theorem n16_same : (Rows.laid_strconv_isNotPrint16 : DataW Unit) = sliceData .u16 goPrintTabs.n16 := by kernel_rfl
theorem p32_same : (Rows.laid_strconv_isPrint32 : DataW Unit) = sliceData .u32 goPrintTabs.p32 := by kernel_rfl
theorem n32_same : (Rows.laid_strconv_isNotPrint32 : DataW Unit) = sliceData .u16 goPrintTabs.n32 := by kernel_rfl

/-- THE WITNESS: the settled world with four blocks more (the four tables' rows), the six variables holding what their texts lay. -/
noncomputable def laidWorld (os : Os) : World :=
  let N := (World.settled Tryd.prog os).heap.size
  let T := Go.Lib.goPrintTabs
  let w0 := World.holding Tryd.prog os ⟨#[
    .cells (intCellsOf .u16 T.p16) 39, .cells (intCellsOf .u16 T.n16) 39, .cells (intCellsOf .u32 T.p32) 43, .cells (intCellsOf .u16 T.n32) 39], #[], []⟩
  let put (h : Array Obj) (g : Nat) (cs : Array Value) : Array Obj := h.modify g fun
    | .cells _ t frozen => .cells cs t frozen
    | o => o
  let h1 := put w0.heap 4 (Go.Lib.firstTab.map fun z => Value.int .u8 z).toArray
  let h2 := put h1 5 ((List.range 16).flatMap fun i => [Value.int .u8 (Go.Lib.accLo i), Value.int .u8 (Go.Lib.accHi i)]).toArray
  let h3 := put h2 0 #[.slice (some ⟨N, 0, none⟩) T.p16.length T.p16.length]
  let h4 := put h3 1 #[.slice (some ⟨N + 1, 0, none⟩) T.n16.length T.n16.length]
  let h5 := put h4 2 #[.slice (some ⟨N + 2, 0, none⟩) T.p32.length T.p32.length]
  let h6 := put h5 3 #[.slice (some ⟨N + 3, 0, none⟩) T.n32.length T.n32.length]
  { w0 with heap := h6 }
noncomputable def N0 : Nat := (World.settled Tryd.prog default).heap.size
theorem piece0 (os : Os) (args : Array Value) : LaidIn Tryd.prog ((laidWorld os).forCall (fun _ _ => 0) ⟨#[], args, []⟩).memory [("unicode/utf8.acceptRanges", Rows.laid_unicode_utf8_acceptRanges)] [5] :=
  LaidIn.of_run [5] 8 (by kernel_rfl) (by kernel_rfl) (by kernel_rfl) (by kernel_rfl)
theorem piece5 (os : Os) (args : Array Value) : LaidIn Tryd.prog ((laidWorld os).forCall (fun _ _ => 0) ⟨#[], args, []⟩).memory [("unicode/utf8.first", Rows.laid_unicode_utf8_first)] [4] :=
  LaidIn.of_run [4] 8 (by kernel_rfl) (by kernel_rfl) (by kernel_rfl) (by kernel_rfl)
set_option maxRecDepth 1000000 in
theorem piece1 (os : Os) (args : Array Value) : LaidIn Tryd.prog ((laidWorld os).forCall (fun _ _ => 0) ⟨#[], args, []⟩).memory [("strconv.isNotPrint16", sliceData .u16 goPrintTabs.n16)] [1, N0 + 1] :=
  laidIn_slice (t := 40) (e := 39) (te := 39) goPrintTabs.n16 (N0 + 1) (by kernel_rfl) (by kernel_rfl) (by kernel_rfl) (by kernel_rfl) (by kernel_rfl) (by kernel_rfl) (by kernel_rfl) (by kernel_rfl) (of_decide_eq_true (by kernel_rfl)) (of_decide_eq_true (by kernel_rfl))
set_option maxRecDepth 1000000 in
theorem piece2 (os : Os) (args : Array Value) : LaidIn Tryd.prog ((laidWorld os).forCall (fun _ _ => 0) ⟨#[], args, []⟩).memory [("strconv.isNotPrint32", sliceData .u16 goPrintTabs.n32)] [3, N0 + 3] :=
  laidIn_slice (t := 40) (e := 39) (te := 39) goPrintTabs.n32 (N0 + 3) (by kernel_rfl) (by kernel_rfl) (by kernel_rfl) (by kernel_rfl) (by kernel_rfl) (by kernel_rfl) (by kernel_rfl) (by kernel_rfl) (of_decide_eq_true (by kernel_rfl)) (of_decide_eq_true (by kernel_rfl))
set_option maxRecDepth 1000000 in
theorem piece3 (os : Os) (args : Array Value) : LaidIn Tryd.prog ((laidWorld os).forCall (fun _ _ => 0) ⟨#[], args, []⟩).memory [("strconv.isPrint16", sliceData .u16 goPrintTabs.p16)] [0, N0] :=
  laidIn_slice (t := 40) (e := 39) (te := 39) goPrintTabs.p16 N0 (by kernel_rfl) (by kernel_rfl) (by kernel_rfl) (by kernel_rfl) (by kernel_rfl) (by kernel_rfl) (by kernel_rfl) (by kernel_rfl) (of_decide_eq_true (by kernel_rfl)) (of_decide_eq_true (by kernel_rfl))
set_option maxRecDepth 1000000 in
theorem piece4 (os : Os) (args : Array Value) : LaidIn Tryd.prog ((laidWorld os).forCall (fun _ _ => 0) ⟨#[], args, []⟩).memory [("strconv.isPrint32", sliceData .u32 goPrintTabs.p32)] [2, N0 + 2] :=
  laidIn_slice (t := 44) (e := 43) (te := 43) goPrintTabs.p32 (N0 + 2) (by kernel_rfl) (by kernel_rfl) (by kernel_rfl) (by kernel_rfl) (by kernel_rfl) (by kernel_rfl) (by kernel_rfl) (by kernel_rfl) (of_decide_eq_true (by kernel_rfl)) (of_decide_eq_true (by kernel_rfl))
/-- the list of the row, in Go's own tables -/
theorem laid_same : Rows.fnQuoteRow.laid = [("unicode/utf8.acceptRanges", Rows.laid_unicode_utf8_acceptRanges), ("strconv.isNotPrint16", sliceData .u16 goPrintTabs.n16), ("strconv.isNotPrint32", sliceData .u16 goPrintTabs.n32), ("strconv.isPrint16", sliceData .u16 goPrintTabs.p16), ("strconv.isPrint32", sliceData .u32 goPrintTabs.p32), ("unicode/utf8.first", Rows.laid_unicode_utf8_first)] := by
  rw [← n16_same, ← n32_same, ← p16_same, ← p32_same]; rfl
theorem laid_met (os : Os) (args : Array Value) : laidMet Tryd.prog Rows.fnQuoteRow.laid ((laidWorld os).forCall (fun _ _ => 0) ⟨#[], args, []⟩).memory := by
  rw [laid_same]
  exact ((((((piece0 os args).append (piece1 os args) (by kernel_rfl)).append (piece2 os args) (by kernel_rfl)).append (piece3 os args) (by kernel_rfl)).append (piece4 os args) (by kernel_rfl)).append (piece5 os args) (by kernel_rfl)).met

theorem witness_row (os : Os) {H : Type} (enc : TypeId × Value → H) :
    (OpenSpec.ofChange Rows.fnQuoteSpec).preRow enc Tryd.prog Tryd.f3 Rows.fnQuoteRow.domain false Rows.fnQuoteRow.laid ((laidWorld os).forCall (fun _ _ => 0) ⟨#[], #[.string ⟨#[]⟩], []⟩).memory #[.string ⟨#[]⟩] := by
  have hw : (DataW.whole enc Tryd.prog ((laidWorld os).forCall (fun _ _ => 0) ⟨#[], #[.string ⟨#[]⟩], []⟩).memory Tryd.f3.params.toList (OpenSpec.ofChange Rows.fnQuoteSpec).vars false #[Value.string ⟨#[]⟩].toList 8).map (fun x => (x.1, x.2.1)) =
      some ([.lit (.string [])], []) := by kernel_rfl
  obtain ⟨⟨x1, x2, x3⟩, hx, hx1⟩ := Option.map_eq_some_iff.1 hw
  simp only [Prod.mk.injEq] at hx1
  obtain ⟨rfl, rfl⟩ := hx1
  exact OpenSpec.preRow_of_cond 8 hx (by kernel_rfl) (fun k hk => by cases hk) (by kernel_rfl) (laid_met os _)

set_option maxRecDepth 100000 in
set_option maxHeartbeats 2000000 in
theorem lifted (os : Os) (started : os.Started) (H : Type) (enc : TypeId × Value → H) (F : Stop.Interp) :
    ReturnsInHanded {} Tryd.checked os 3 .any ((OpenSpec.ofChange Rows.fnQuoteSpec).preRow enc Tryd.prog Tryd.f3 Rows.fnQuoteRow.domain false Rows.fnQuoteRow.laid) (((OpenSpec.ofChange Rows.fnQuoteSpec).at F).post enc Tryd.prog Tryd.f3 false true false false) := by
  refine returnsInHanded_of_row (C := Tryd.checked) (s := OpenSpec.ofChange Rows.fnQuoteSpec) fnQuote.own started (by kernel_rfl) Tryd.func3
    (witness_row_atRef (enc := enc) (C := Tryd.checked) false (laidWorld os) #[.string ⟨#[]⟩] rfl (by kernel_rfl) (by kernel_rfl) (by kernel_rfl) (witness_row os enc)) ?_
  intro W base args ds gs before hval0 hW _ _ _ hL _ _
  have hval : ∀ (j : Nat) t v, Tryd.f3.params[j]? = some t → args[j]? = some v → Value.okWide Tryd.prog W .any base t v := hval0
  have hW' := hW
  obtain ⟨p, q, hA0, hV0, rfl, _, _⟩ := hW
  have hA : DataW.TrodAll enc Tryd.prog W 0 (fun _ => true) true Tryd.f3.params.toList args.toList ds p := hA0
  rw [Tryd.params3] at hA hval
  obtain ⟨v0, d0, rfl, rfl, h0⟩ := trodAll_one hA
  obtain ⟨rfl, rfl⟩ := trodVars_none hV0
  obtain ⟨s, rfl, rfl, rfl, ws⟩ := open_string Tryd.underlying9 (hval 0 9 v0 rfl rfl) h0
  clear hA0 hV0 hval0
  rw [laid_same] at hL
  have r0 : VarReads Tryd.prog W "unicode/utf8.acceptRanges" Go.Lib.acceptData := by
    rw [← accept_same]
    exact Go.Lib.laidMet.reads hL (.head _)
  have r5 : VarReads Tryd.prog W "unicode/utf8.first" Go.Lib.firstData := by
    rw [← first_same]
    exact Go.Lib.laidMet.reads hL (.tail _ (.tail _ (.tail _ (.tail _ (.tail _ (.head _))))))
  have hU : Lib.Utf8Tabs (ren197.g 3) (ren197.g 4) W :=
    utf8Tabs_of_readsT ({ lays197 with } : U8Types Tryd.prog ren197) ⟨by kernel_rfl, by kernel_rfl, by kernel_rfl, by kernel_rfl, by kernel_rfl, by kernel_rfl, by kernel_rfl⟩ r5 r0
  have hP : Lib.PrintTabsAt (ren339.g 20) (ren339.g 21) (ren339.g 22) (ren339.g 23) Lib.goPrintTabs W :=
    printTabs_of_reads lays339 ⟨by kernel_rfl, by kernel_rfl, by kernel_rfl, by kernel_rfl, by kernel_rfl, by kernel_rfl, by kernel_rfl, by kernel_rfl, by kernel_rfl, by kernel_rfl⟩
      (Go.Lib.laidMet.reads hL (.tail _ (.tail _ (.tail _ (.head _))))) (Go.Lib.laidMet.reads hL (.tail _ (.head _))) (Go.Lib.laidMet.reads hL (.tail _ (.tail _ (.tail _ (.tail _ (.head _)))))) (Go.Lib.laidMet.reads hL (.tail _ (.tail _ (.head _))))
  refine (lawQuote Lib.goPrintTabs s W ⟨hP, hU⟩).mono ?_
  rintro e W' ⟨rfl, bel⟩
  have e1 : ((OpenSpec.ofChange Rows.fnQuoteSpec).at F).fn H ([.lit (.string s.data.toList)] ++ []) = { results := [.lit (.bool true)], args := [.lit (.string s.data.toList)] } := rfl
  refine ⟨_, rfl, _, _, _, [], [], [], hW', ?_, ?_, ?_, bel.frame _, fun h => by cases h⟩
  · rw [e1]; exact trodAll_mk1 (shut_bool Tryd.underlying4 _)
  · rw [e1]; exact trodAll_mk1 (shut_string Tryd.underlying9 ws)
  · rw [e1]; rfl

theorem said : Rows.FnQuoteSaid :=
  OpenClaim.holds_of_cond 3 Tryd.f3 rfl rfl rfl rfl rfl rfl rfl ⟨rfl, rfl, rfl, rfl, rfl⟩ rfl rfl rfl rfl rfl (by kernel_rfl) Tryd.func3 (by kernel_rfl)
    (of_decide_eq_true (by kernel_rfl)) (by unfold Func.isWrapper; rw [if_neg (of_decide_eq_false (by kernel_rfl))]; exact ⟨rfl, rfl⟩)
    (fun os started H enc _ F0 => by rw [OpenClaim.pre_eq_preRow]; exact lifted os started H enc F0)

theorem fnQuote.proved : Rows.FnQuoteCardSaid :=
  Claim7.holds_tied_plain_at .later [] [.data, .pinned, .pinned, .pinned, .pinned, .pinned] true Rows.fnQuoteCard.stood.harness false
    said (fun _ h => by cases h) (by kernel_rfl) (fun _ h => by cases h) fnQuote_row_tie rfl ⟨rfl, rfl⟩ (by kernel_rfl) rfl
    (fun f fn hf hfn => by
      obtain rfl : f = 3 := Option.some.inj ((show Tryd.prog.funcNamed Rows.fnQuoteRow.func = some 3 by kernel_rfl).symm.trans hf) |>.symm
      obtain rfl : fn = Tryd.f3 := (Option.some.inj (Tryd.func3.symm.trans hfn)).symm
      exact ⟨by kernel_rfl, fun j t ht => by
        rw [Tryd.params3] at ht
        have hm : t ∈ [9] := by simpa using Array.mem_of_getElem? ht
        have hall : ([9].all fun u => !Tryd.prog.wantsStandIn u) = true := by kernel_rfl
        exact (show Tryd.prog.wantsStandIn t = false by simpa using List.all_eq_true.1 hall t hm)⟩)
    (by kernel_rfl)
#print axioms fnQuote.proved
end Go.Proofs.YtoghnefgflkpdaaDoor
