/- FnWalkAll returns true at every input, and the argument reads behind the call as it read before it. No condition beyond the statement's own. (The frame is the kit's proof-skeleton at this function's number and types.) -/
import Derived.Test.YtoojgjhfmmohbaaGreatRows
import Derived.Test.YtoojgjhfmmohbaaGreatMLaw
import Derived.Test.YtoojgjhfmmohbaaGreatWkOpen
import Derived.Test.YtoojgjhfmmohbaaGreatLaid
import Derived.WalkKit
import Derived.ProofKit
import Derived.OpenShut
import Derived.ShutString
import Derived.ChangeOld
import Derived.Below
import Derived.SizedLaws
namespace Go.Proofs.YtoojgjhfmmohbaaGreat.fnWalkAll
open Go.ChangeShapes Go.WideShapes Go.ChangeAt Go.RowKit
set_option linter.unusedVariables false
theorem own : ownKnob Tryz.prog.godebug = none := by kernel_rfl
set_option maxRecDepth 100000 in
theorem lifted (os : Os) (started : os.Started) (H : Type) (enc : TypeId × Value → H) :
   ReturnsInHanded {} Tryz.checked os 3 .any (Rows.fnWalkAllSpec.pre6 enc Tryz.prog Tryz.f3 Rows.fnWalkAllRow.domain false) (Rows.fnWalkAllSpec.post enc Tryz.prog Tryz.f3 false true false false) := by
 refine returnsInHanded_of_change (C := Tryz.checked) own started (by kernel_rfl) Tryz.func3
   (ChangeSpec.witness6 (enc := enc) (C := Tryz.checked) false ⟨#[], #[.agg #[.string ByteArray.empty, .slice none 0 0, .bool false, .bool false, .bool false, .bool false, .bool false, .bool false]], []⟩ 8 (by kernel_rfl) (by kernel_rfl) (by kernel_rfl) (by kernel_rfl)) ?_
 intro W base args ds gs before hval0 hW hcnd _
 have hval : ∀ (j : Nat) t v, Tryz.f3.params[j]? = some t → args[j]? = some v → Value.okWide Tryz.prog W .any base t v := hval0
 have hW' := hW
 obtain ⟨p, q, hA0, hV, rfl, hfz, hnd⟩ := hW
 have hA : DataW.TrodAll enc Tryz.prog W 0 (fun _ => true) true Tryz.f3.params.toList args.toList ds p := hA0
 rw [Tryz.params3] at hA hval
 obtain ⟨v0, vs0, d0, ds0, p0, q0, hargs, rfl, rfl, h0, r0⟩ := trodAll_cons hA
 obtain ⟨rfl, rfl, rfl⟩ := trodAll_nil r0
 obtain rfl : args = #[v0] := by cases args; simp_all
 obtain ⟨rfl, rfl⟩ := trodVars_none hV
 have k0 := h0
 have lt0 : ∀ x ∈ p0, x.block < W.heap.size := by obtain ⟨m, hm⟩ := k0; exact DataW.trod_lt m _ _ _ hm
 obtain ⟨nm, l, sa, sc, o1, o2, o3, o4, o5, o6, rfl, hnm, hl⟩ := open_file (hval 0 26 v0 rfl rfl) h0
 clear hA0 hval0
 have hwalk := law_any (R := Rw W) nm l sa sc o1 o2 o3 o4 o5 o6 W (Old.of W) hl hnm
 refine hwalk.mono fun e W' ⟨he, bel⟩ => ?_
 subst he
 exact ⟨_, rfl, _, _, _, [], _, [], hW', trodAll_mk1 (shut_bool Tryz.underlying4 _), (trodAll_cons_mk (Below.trod laidOut (by kernel_rfl) (of_decide_eq_true (by kernel_rfl)) k0 bel lt0) trodAll_mk0), rfl, bel.frame _, fun h => by cases h⟩
theorem closed : joinedFacts Tryz.pinned.checked.prog 3 Tryz.f3 Rows.fnWalkAllSpec Rows.fnWalkAllRow = true := by
 have hlo : laidOutB Tryz.pinned.checked.prog = true := laidOut
 unfold joinedFacts
 rw [hlo]
 show _ = true
 kernel_rfl
theorem over : Rows.fnWalkAllRow.holds Tryz.pinned (OpenSpec.ofChange Rows.fnWalkAllSpec) :=
 OpenClaim.holds_of_wide 3 Tryz.f3 rfl rfl rfl rfl rfl rfl rfl ⟨rfl, rfl, rfl, rfl, rfl⟩ rfl rfl rfl rfl rfl (by kernel_rfl) Tryz.func3 closed
   (of_decide_eq_true (by kernel_rfl)) (by unfold Func.isWrapper; first | (rw [if_pos (by decide +kernel)]; kernel_rfl) | (rw [if_neg (by decide +kernel)]; exact ⟨rfl, rfl⟩))
   (fun os started H enc _ => lifted os started H enc)
theorem proved : Rows.FnWalkAllSaid := over
#print axioms proved
end Go.Proofs.YtoojgjhfmmohbaaGreat.fnWalkAll
