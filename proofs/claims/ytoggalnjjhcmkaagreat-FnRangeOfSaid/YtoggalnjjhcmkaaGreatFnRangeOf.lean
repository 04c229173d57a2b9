/- FnRangeOf returns true at every input, and each argument reads behind the call as it read before it. No condition beyond the statement's own. (The frame is the kit's proof-skeleton, turned to an array of structs.) -/
import Derived.Test.YtoggalnjjhcmkaaGreatRows
import Derived.Test.YtoggalnjjhcmkaaGreatLawRange
import Derived.Test.YtoggalnjjhcmkaaGreatOpenArr
import Derived.Test.YtoggalnjjhcmkaaGreatLaid
import Derived.WalkKit
import Derived.ProofKit
import Derived.OpenShut
import Derived.ShutString
import Derived.ChangeOld
import Derived.Below
import Derived.SizedLaws
namespace Go.Proofs.YtoggalnjjhcmkaaGreat.fnRangeOf
open Go.ChangeShapes Go.WideShapes Go.ChangeAt Go.RowKit
set_option linter.unusedVariables false

theorem own : ownKnob Tryz.prog.godebug = none := by kernel_rfl

set_option maxRecDepth 100000 in
theorem lifted (os : Os) (started : os.Started) (H : Type) (enc : TypeId × Value → H) :
    ReturnsInHanded {} Tryz.checked os 3 .any (Rows.fnRangeOfSpec.pre6 enc Tryz.prog Tryz.f3 Rows.fnRangeOfRow.domain false) (Rows.fnRangeOfSpec.post enc Tryz.prog Tryz.f3 false true false false) := by
  refine returnsInHanded_of_change_sized (C := Tryz.checked) own started (by kernel_rfl) Tryz.func3
    (ChangeSpec.witness6 (enc := enc) (C := Tryz.checked) false ⟨#[], #[.agg #[.int .i64 0, .bool false, .slice none 0 0, .int .u64 0, .string ByteArray.empty, .slice none 0 0, .int .i64 0, .bool false, .slice none 0 0, .int .u64 0, .string ByteArray.empty, .slice none 0 0, .int .i64 0, .bool false, .slice none 0 0, .int .u64 0, .string ByteArray.empty, .slice none 0 0], .int .u8 0], []⟩ 8 (by kernel_rfl) (by kernel_rfl) (by kernel_rfl) (by kernel_rfl)) ?_
  intro W base args ds gs before hval0 hW hcnd hsz0 _
  have hval : ∀ (j : Nat) t v, Tryz.f3.params[j]? = some t → args[j]? = some v → Value.okWide Tryz.prog W .any base t v := hval0
  have hW' := hW
  obtain ⟨p, q, hA0, hV, rfl, hfz, hnd⟩ := hW
  have hA : DataW.TrodAll enc Tryz.prog W 0 (fun _ => true) true Tryz.f3.params.toList args.toList ds p := hA0
  have hsz : (DataW.weightsEach Tryz.prog (Tryz.f3.params.toList ++ Rows.fnRangeOfSpec.plain.varTypes Tryz.prog) (ds ++ gs)).all (· ≤ reachBytes) = true := hsz0
  rw [Tryz.params3] at hA hval hsz
  obtain ⟨v0, vs0, d0, ds0, p0, q0, hargs, rfl, rfl, h0, r0⟩ := trodAll_cons hA
  obtain ⟨v1, vs1, d1, ds1, p1, q1, rfl, rfl, rfl, h1, r1⟩ := trodAll_cons r0
  obtain ⟨rfl, rfl, rfl⟩ := trodAll_nil r1
  obtain rfl : args = #[v0, v1] := by cases args; simp_all
  obtain ⟨rfl, rfl⟩ := trodVars_none hV
  have k0 := h0
  have lt0 : ∀ x ∈ p0, x.block < W.heap.size := by obtain ⟨m, hm⟩ := k0; exact DataW.trod_lt m _ _ _ hm
  obtain ⟨kd, nb, ma, ml, mc, ub, tx, ka, kn, kc, ms, rfl, hin, hre⟩ := open_arr3 (hval 0 27 v0 rfl rfl) h0
  obtain ⟨n1, rfl, rfl, rfl, w1⟩ := open_int Tryz.underlying5 (hval 1 5 v1 rfl rfl) h1
  have b1 := bounds_u8 w1
  obtain ⟨nn, rfl⟩ : ∃ nn : Nat, n1 = (nn : Int) := ⟨n1.toNat, by omega⟩
  clear hA0 hval0
  have hwalk := lawRange kd nb ma ml mc ub tx ka kn kc ms nn W (by omega) (fun j hj => (hin j hj).2.1) (fun j hj => by
    have h1 := hre (fun n hn => of_decide_eq_true (List.all_eq_true.1 hsz n (DataW.weights_mem_each (j := 0) rfl rfl n hn))) j hj
    unfold reachBytes at h1; omega) (fun j hj => (hin j hj).2.2.2.1)
  refine hwalk.mono fun e W' ⟨he, bel⟩ => ?_
  subst he
  exact ⟨_, rfl, _, _, _, [], _, [], hW', trodAll_mk1 (shut_bool Tryz.underlying4 _), (trodAll_cons_mk (Below.trod laidOut (by kernel_rfl) (of_decide_eq_true (by kernel_rfl)) k0 bel lt0) (trodAll_cons_mk (shut_int Tryz.underlying5 w1) trodAll_mk0)), rfl, bel.frame _, fun h => by cases h⟩

theorem closed : joinedFacts Tryz.pinned.checked.prog 3 Tryz.f3 Rows.fnRangeOfSpec Rows.fnRangeOfRow = true := by
  have hlo : laidOutB Tryz.pinned.checked.prog = true := laidOut
  unfold joinedFacts
  rw [hlo]
  show _ = true
  kernel_rfl
theorem over : Rows.fnRangeOfRow.holds Tryz.pinned (OpenSpec.ofChange Rows.fnRangeOfSpec) :=
  OpenClaim.holds_of_wide 3 Tryz.f3 rfl rfl rfl rfl rfl rfl rfl ⟨rfl, rfl, rfl, rfl, rfl⟩ rfl rfl rfl rfl rfl (by kernel_rfl) Tryz.func3 closed
    (of_decide_eq_true (by kernel_rfl)) (by unfold Func.isWrapper; first | (rw [if_pos (by decide +kernel)]; kernel_rfl) | (rw [if_neg (by decide +kernel)]; exact ⟨rfl, rfl⟩))
    (fun os started H enc _ => lifted os started H enc)

theorem proved : Rows.FnRangeOfSaid := over
#print axioms proved
end Go.Proofs.YtoggalnjjhcmkaaGreat.fnRangeOf
