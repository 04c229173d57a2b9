/- FnIntRead returns true at every input, and its arguments read behind the call as they read before; the three variables of the libraries that it may look at (io.EOF, math/big's two errors) lie as the program's text lays them (the card ties them to it). No condition beyond the statement's own. -/
import Derived.Test.YtbfgjaammmpcdaaGreatDoorRows
import Derived.Test.YtbfgjaammmpcdaaGreatDoorCards
import Derived.Test.YtbfgjaammmpcdaaGreatDoorTie
import Derived.Test.YtbfgjaammmpcdaaGreatDoorIrLaw
import Derived.Test.YtbfgjaammmpcdaaGreatDoorLaid
import Derived.Stop.LaidErr
import Derived.WalkSmall
import Derived.OpenShut
import Derived.ShutString
import Derived.ChangeOld
import Derived.Below
import Derived.Carry
import Derived.Lib.LaidIn
import Derived.Deep.DeepHandedRow
import Derived.Deep.DeepWitnessRowRef
import Derived.ProofKit
import Derived.SizedLaws
import Derived.SevenTiedAt
namespace Go.Proofs.YtbfgjaammmpcdaaGreatDoor.fnIntRead
open Go.ChangeShapes Go.WideShapes Go.ChangeAt Go.RowKit
set_option linter.unusedVariables false

theorem own : ownKnob Tryz.prog.godebug = none := by kernel_rfl
abbrev nE : String := "io.EOF"
abbrev nN : String := "given.example/pub-larkspur/pub/bigall.errNoDigits"
abbrev nS : String := "given.example/pub-larkspur/pub/bigall.errInvalSep"
theorem gE : Tryz.prog.globalNamed nE = some 1 := by kernel_rfl
theorem gN : Tryz.prog.globalNamed nN = some 7 := by kernel_rfl
theorem gS : Tryz.prog.globalNamed nS = some 6 := by kernel_rfl
theorem tE : (Tryz.prog.globals[1]?).map (·.type) = some 119 := by kernel_rfl
theorem tN : (Tryz.prog.globals[7]?).map (·.type) = some 119 := by kernel_rfl
theorem tS : (Tryz.prog.globals[6]?).map (·.type) = some 119 := by kernel_rfl
theorem cellsS : Tryz.prog.cellsOf 9 = 1 := by kernel_rfl
theorem cellsE : Tryz.prog.cellsOf 197 = 1 := by kernel_rfl
theorem star : "*" ++ "errors.errorString" = "*errors.errorString" := by decide
theorem rowP (u : TypeId) (h : Tryz.prog.typeName? 3 u = some "*errors.errorString") : u = 178 :=
  typeName_ptr_named (nm := "errors.errorString") (by rw [star]; kernel_rfl) (by kernel_rfl) (by decide) u (by rw [star]; exact h)
theorem uP : Tryz.prog.underlying 178 = some (.pointer 197) := by kernel_rfl

/-- THE WITNESS: the settled world with three blocks more (the three errors' texts), the variables pointing to them. -/
noncomputable def laidWorld (os : Os) : World :=
  let N := (World.settled Tryz.prog os).heap.size
  let w0 := World.holding Tryz.prog os ⟨#[
    .cells #[.string ⟨#[69, 79, 70]⟩] 197, .cells #[.string ⟨#[110, 117, 109, 98, 101, 114, 32, 104, 97, 115, 32, 110, 111, 32, 100, 105, 103, 105, 116, 115]⟩] 197, .cells #[.string ⟨#[39, 95, 39, 32, 109, 117, 115, 116, 32, 115, 101, 112, 97, 114, 97, 116, 101, 32, 115, 117, 99, 99, 101, 115, 115, 105, 118, 101, 32, 100, 105, 103, 105, 116, 115]⟩] 197], #[], []⟩
  let put (h : Array Obj) (g : Nat) (cs : Array Value) : Array Obj := h.modify g fun
    | .cells _ t frozen => .cells cs t frozen
    | o => o
  let h1 := put w0.heap 1 #[.iface 178 (.pointer (some ⟨N, 0, none⟩))]
  let h2 := put h1 7 #[.iface 178 (.pointer (some ⟨N + 1, 0, none⟩))]
  let h3 := put h2 6 #[.iface 178 (.pointer (some ⟨N + 2, 0, none⟩))]
  { w0 with heap := h3 }
noncomputable def N0 : Nat := (World.settled Tryz.prog default).heap.size
theorem laid_met (os : Os) (args : Array Value) : laidMet Tryz.prog Rows.fnIntReadRow.laid ((laidWorld os).forCall (fun _ _ => 0) ⟨#[], args, []⟩).memory :=
  laidMet_of_run (ps := [.cell 1 0, .cell N0 0, .cell 7 0, .cell (N0 + 1) 0, .cell 6 0, .cell (N0 + 2) 0]) 8 (by kernel_rfl) (by kernel_rfl) (by kernel_rfl)
theorem witness_row (os : Os) {H : Type} (enc : TypeId × Value → H) :
    (OpenSpec.ofChange Rows.fnIntReadSpec).preRow enc Tryz.prog Tryz.f3 Rows.fnIntReadRow.domain false Rows.fnIntReadRow.laid ((laidWorld os).forCall (fun _ _ => 0) ⟨#[], #[.bool false, .slice none 0 0, .int .u8 0, .int .u8 0, .int .u8 0], []⟩).memory #[.bool false, .slice none 0 0, .int .u8 0, .int .u8 0, .int .u8 0] := by
  have hw : (DataW.whole enc Tryz.prog ((laidWorld os).forCall (fun _ _ => 0) ⟨#[], #[.bool false, .slice none 0 0, .int .u8 0, .int .u8 0, .int .u8 0], []⟩).memory Tryz.f3.params.toList (OpenSpec.ofChange Rows.fnIntReadSpec).vars false #[Value.bool false, .slice none 0 0, .int .u8 0, .int .u8 0, .int .u8 0].toList 8).map (fun x => (x.1, x.2.1)) =
      some ([.lit (.bool false), .nil, .lit (.int .u8 0), .lit (.int .u8 0), .lit (.int .u8 0)], [tok enc (.iface 178 (.pointer (some ⟨N0 + 2, 0, none⟩))), tok enc (.iface 178 (.pointer (some ⟨N0 + 1, 0, none⟩)))]) := by kernel_rfl
  obtain ⟨⟨x1, x2, x3⟩, hx, hx1⟩ := Option.map_eq_some_iff.1 hw
  simp only [Prod.mk.injEq] at hx1
  obtain ⟨rfl, rfl⟩ := hx1
  exact OpenSpec.preRow_of_cond 8 hx (by kernel_rfl) (fun k hk => by cases hk) (by kernel_rfl) (laid_met os _)
/-- a number of a byte -/
theorem byte_nat {a : Int} (h : (Lit.int .u8 a).wf = true) : ∃ n : Nat, a = (n : Int) ∧ n < 256 := by
  simp only [Lit.wf, Bool.and_eq_true, decide_eq_true_eq] at h
  have e1 : IntKind.u8.min = 0 := by decide
  have e2 : IntKind.u8.max = 255 := by decide
  exact ⟨a.toNat, by omega, by omega⟩

set_option maxRecDepth 100000 in
set_option maxHeartbeats 2000000 in
theorem lifted (os : Os) (started : os.Started) (H : Type) (enc : TypeId × Value → H) (F : Stop.Interp) :
    ReturnsInHanded {} Tryz.checked os 3 .any ((OpenSpec.ofChange Rows.fnIntReadSpec).preRow enc Tryz.prog Tryz.f3 Rows.fnIntReadRow.domain false Rows.fnIntReadRow.laid) (((OpenSpec.ofChange Rows.fnIntReadSpec).at F).post enc Tryz.prog Tryz.f3 false true false false) := by
  refine returnsInHanded_of_row (C := Tryz.checked) (s := OpenSpec.ofChange Rows.fnIntReadSpec) own started (by kernel_rfl) Tryz.func3
    (witness_row_atRef (enc := enc) (C := Tryz.checked) false (laidWorld os) #[.bool false, .slice none 0 0, .int .u8 0, .int .u8 0, .int .u8 0] rfl (by kernel_rfl) (by kernel_rfl) (by kernel_rfl) (witness_row os enc)) ?_
  intro W base args ds gs before hval0 hW _ _ _ hL _ _
  have hval : ∀ (j : Nat) t v, Tryz.f3.params[j]? = some t → args[j]? = some v → Value.okWide Tryz.prog W .any base t v := hval0
  have hW' := hW
  obtain ⟨p, q, hA0, hV0, rfl, _, _⟩ := hW
  have hA : DataW.TrodAll enc Tryz.prog W 0 (fun _ => true) true Tryz.f3.params.toList args.toList ds p := hA0
  have hV : DataW.TrodVars enc Tryz.prog W (fun _ => true) [nS, nN] gs q := hV0
  rw [Tryz.params3] at hA hval
  obtain ⟨v0, vs0, d0, ds0, p0, q0, hargs, rfl, rfl, h0, r0⟩ := trodAll_cons hA
  obtain ⟨v1, vs1, d1, ds1, p1, q1, rfl, rfl, rfl, h1, r1⟩ := trodAll_cons r0
  obtain ⟨v2, vs2, d2, ds2, p2, q2, rfl, rfl, rfl, h2, r2⟩ := trodAll_cons r1
  obtain ⟨v3, vs3, d3, ds3, p3, q3, rfl, rfl, rfl, h3, r3⟩ := trodAll_cons r2
  obtain ⟨v4, vs4, d4, ds4, p4, q4, rfl, rfl, rfl, h4, r4⟩ := trodAll_cons r3
  obtain ⟨rfl, rfl, rfl⟩ := trodAll_nil r4
  obtain rfl : args = #[v0, v1, v2, v3, v4] := by cases args; simp_all
  obtain ⟨aE, sE, hvE, _, _, _⟩ := laid_sentinel hL gE tE Tryz.underlying119 rowP uP Tryz.underlying197 rfl rfl Tryz.underlying9 cellsE cellsS
  obtain ⟨aN, sN, hvN, _, _, _⟩ := laid_sentinel hL.tail gN tN Tryz.underlying119 rowP uP Tryz.underlying197 rfl rfl Tryz.underlying9 cellsE cellsS
  obtain ⟨aS, sS, hvS, _, _, _⟩ := laid_sentinel hL.tail.tail gS tS Tryz.underlying119 rowP uP Tryz.underlying197 rfl rfl Tryz.underlying9 cellsE cellsS
  obtain ⟨rfl, rfl⟩ := hV.unique (vars_read2 enc gS tS Tryz.underlying119 hvS trivial gN tN Tryz.underlying119 hvN trivial _)
  obtain ⟨a0, rfl, rfl, rfl⟩ := open_bool Tryz.underlying4 (hval 0 4 v0 rfl rfl) h0
  obtain ⟨a1, len1, cap1, rfl⟩ := okWide_slice Tryz.underlying22 (hval 1 22 v1 rfl rfl)
  have k1 := h1
  have lt1 : ∀ x ∈ p1, x.block < W.heap.size := by obtain ⟨m, hm⟩ := k1; exact DataW.trod_lt m _ _ _ hm
  obtain ⟨ms, hms, hml, hmx, hsl⟩ : ∃ ms : List Nat, (∀ x ∈ ms, x < 256) ∧ ms.length = len1 ∧ len1 ≤ maxLen ∧ Sl W W.heap.size (.slice a1 len1 cap1) (ms.map bv) := by
    obtain ⟨fuel, hf⟩ := h1
    rcases open_ints Tryz.underlying22 Tryz.underlying5 (by kernel_rfl) hf with ⟨hcs, _⟩ | ⟨x, l, c, zs, hcs, _, hl, hm, hz, _, hcell, hwz⟩
    · simp [Value.cells] at hcs
      obtain ⟨rfl, rfl, rfl⟩ := hcs
      exact row_sl (zs := []) (.inl ⟨rfl, rfl, rfl, rfl⟩)
    · simp [Value.cells] at hcs
      obtain ⟨rfl, rfl, rfl⟩ := hcs
      exact row_sl (.inr ⟨x, rfl, hl, hm, by simpa using hz, hcell, hwz⟩)
  obtain ⟨a2, rfl, rfl, rfl, w2⟩ := open_int Tryz.underlying5 (hval 2 5 v2 rfl rfl) h2
  obtain ⟨a3, rfl, rfl, rfl, w3⟩ := open_int Tryz.underlying5 (hval 3 5 v3 rfl rfl) h3
  obtain ⟨a4, rfl, rfl, rfl, w4⟩ := open_int Tryz.underlying5 (hval 4 5 v4 rfl rfl) h4
  obtain ⟨b2, rfl, l2⟩ := byte_nat w2
  obtain ⟨b3, rfl, l3⟩ := byte_nat w3
  obtain ⟨b4, rfl, l4⟩ := byte_nat w4
  clear hA0 hval0
  have cE : W.cell? ⟨1, 0, none⟩ = some (.iface 178 (.pointer (some aE))) := by simpa using World.var?_cell gE hvE 0
  have cN : W.cell? ⟨7, 0, none⟩ = some (.iface 178 (.pointer (some aN))) := by simpa using World.var?_cell gN hvN 0
  have cS : W.cell? ⟨6, 0, none⟩ = some (.iface 178 (.pointer (some aS))) := by simpa using World.var?_cell gS hvS 0
  have hwalk := lawIntRead a0 (.slice a1 len1 cap1) ms b2 b3 b4 aE aN W hms hsl (by rw [hml]; exact hmx) l2 l3 l4 ⟨cE, cN, lt_of_cell cE, lt_of_cell cN⟩
  refine hwalk.mono fun e W' ⟨he, bel⟩ => ?_
  subst he
  have vS := var?_below bel gS (lt_of_cell cS) hvS
  have vN := var?_below bel gN (lt_of_cell cN) hvN
  have e1 : ((OpenSpec.ofChange Rows.fnIntReadSpec).at F).fn H ([.lit (.bool a0), d1, .lit (.int .u8 b2), .lit (.int .u8 b3), .lit (.int .u8 b4)] ++ [tok enc (.iface 178 (.pointer (some aS))), tok enc (.iface 178 (.pointer (some aN)))]) = { results := [.lit (.bool true)], args := [.lit (.bool a0), d1, .lit (.int .u8 b2), .lit (.int .u8 b3), .lit (.int .u8 b4)], vars := [tok enc (.iface 178 (.pointer (some aS))), tok enc (.iface 178 (.pointer (some aN)))] } := rfl
  refine ⟨_, rfl, _, _, _, [], [] ++ (p1 ++ ([] ++ ([] ++ ([] ++ [])))), [.cell 6 0, .cell 7 0], hW', ?_, ?_, ?_, bel.frame _, fun h => by cases h⟩
  · rw [e1]; exact trodAll_mk1 (shut_bool Tryz.underlying4 _)
  · rw [e1]; exact trodAll_cons_mk (shut_bool Tryz.underlying4 _) (trodAll_cons_mk (Below.trod laidOut (by kernel_rfl) (of_decide_eq_true (by kernel_rfl)) k1 bel lt1) (trodAll_cons_mk (shut_int Tryz.underlying5 w2) (trodAll_cons_mk (shut_int Tryz.underlying5 w3) (trodAll_cons_mk (shut_int Tryz.underlying5 w4) trodAll_mk0))))
  · rw [e1]; exact vars_read2 enc gS tS Tryz.underlying119 vS trivial gN tN Tryz.underlying119 vN trivial _

theorem closed : joinedFacts Tryz.pinned.checked.prog 3 Tryz.f3 Rows.fnIntReadSpec Rows.fnIntReadRow = true := by
  have hlo : laidOutB Tryz.pinned.checked.prog = true := laidOut
  unfold joinedFacts
  rw [hlo]
  show _ = true
  kernel_rfl
theorem said : Rows.FnIntReadSaid :=
  OpenClaim.holds_of_cond 3 Tryz.f3 rfl rfl rfl rfl rfl rfl rfl ⟨rfl, rfl, rfl, rfl, rfl⟩ rfl rfl rfl rfl rfl (by kernel_rfl) Tryz.func3 closed
    (of_decide_eq_true (by kernel_rfl)) (by unfold Func.isWrapper; rw [if_neg (of_decide_eq_false (by kernel_rfl))]; exact ⟨rfl, rfl⟩)
    (fun os started H enc _ F0 => by rw [OpenClaim.pre_eq_preRow]; exact lifted os started H enc F0)

theorem proved : Rows.FnIntReadCardSaid :=
  Claim7.holds_tied_plain_at .later [] [.sentinel, .sentinel, .sentinel] true Rows.fnIntReadCard.stood.harness true
    said (fun _ h => by cases h) (by kernel_rfl) (fun _ h => by cases h) fnIntRead_row_tie rfl ⟨rfl, rfl⟩ (by kernel_rfl) rfl
    (fun f fn hf hfn => by
      obtain rfl : f = 3 := Option.some.inj ((show Tryz.prog.funcNamed Rows.fnIntReadRow.func = some 3 by kernel_rfl).symm.trans hf) |>.symm
      obtain rfl : fn = Tryz.f3 := (Option.some.inj (Tryz.func3.symm.trans hfn)).symm
      exact ⟨by kernel_rfl, fun j t ht => by
        rw [Tryz.params3] at ht
        have hm : t ∈ [4, 22, 5, 5, 5] := by simpa using Array.mem_of_getElem? ht
        have hall : ([4, 22, 5, 5, 5].all fun u => !Tryz.prog.wantsStandIn u) = true := by kernel_rfl
        exact (show Tryz.prog.wantsStandIn t = false by simpa using List.all_eq_true.1 hall t hm)⟩)
    (by kernel_rfl)
#print axioms proved
end Go.Proofs.YtbfgjaammmpcdaaGreatDoor.fnIntRead
