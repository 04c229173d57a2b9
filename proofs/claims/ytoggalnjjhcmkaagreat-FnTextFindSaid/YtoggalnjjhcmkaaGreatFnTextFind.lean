/- FnTextFind returns true at every input, and each argument reads behind the call as it read before it. No condition beyond the statement's own. (The frame is the kit's proof-skeleton at this function's number and types.) -/
import Derived.Test.YtoggalnjjhcmkaaGreatRows
import Derived.Test.YtoggalnjjhcmkaaGreatFLaw
import Derived.Test.YtoggalnjjhcmkaaGreatOpenVal
import Derived.Test.YtoggalnjjhcmkaaGreatLaid
import Derived.WalkKit
import Derived.ProofKit
import Derived.OpenShut
import Derived.ShutString
import Derived.ChangeOld
import Derived.Below
import Derived.SizedLaws
namespace Go.Proofs.YtoggalnjjhcmkaaGreat.fnTextFind
open Go.ChangeShapes Go.WideShapes Go.ChangeAt Go.RowKit
open Go.ChangeMaps (open_string shut_string)
set_option linter.unusedVariables false

theorem own : ownKnob Tryz.prog.godebug = none := by kernel_rfl

set_option maxRecDepth 100000 in
theorem open_one {H : Type} {enc : TypeId × Value → H} {w : World} {base b0 : Nat} {held : Bool} {r : Reach} {v : Value} {d : DataW H} {p : List MemPlace} (hv : Value.okWide Tryz.prog w r b0 26 v) (h : DataW.Trod enc Tryz.prog w base (fun _ => true) held 26 v d p) :
    ∃ (kd : Int) (nb : Bool) (ma : Option Addr) (ml mc : Nat) (ub : Int) (tx : ByteArray) (ka : Option Addr) (kn kc : Nat) (ms : List Nat), v = .agg #[.int .i64 kd, .bool nb, .slice ma ml mc, .int .u64 ub, .string tx, .slice ka kn kc] ∧ ValIn w kd nb ma ml mc ub tx ka kn kc ms := by
  have hcs : ∃ cs, v = .agg cs := by
    simp only [Value.okWide, Tryz.underlying26] at hv
    obtain ⟨cs, h1, _⟩ := hv
    exact ⟨cs, h1⟩
  obtain ⟨cs, rfl⟩ := hcs
  obtain ⟨l⟩ := cs
  obtain ⟨fuel, hf⟩ := h
  have hf' : DataW.trod enc Tryz.prog w base (fun _ => true) held fuel 26 l = some (d, p) := by simpa [Value.cells] using hf
  obtain ⟨kd, nb, ma, ml, mc, ub, tx, ka, kn, kc, ms, rfl, hin, _⟩ := open_val hf'
  exact ⟨kd, nb, ma, ml, mc, ub, tx, ka, kn, kc, ms, rfl, hin⟩

set_option maxRecDepth 100000 in
theorem lifted (os : Os) (started : os.Started) (H : Type) (enc : TypeId × Value → H) :
    ReturnsInHanded {} Tryz.checked os 5 .any (Rows.fnTextFindSpec.pre6 enc Tryz.prog Tryz.f5 Rows.fnTextFindRow.domain false) (Rows.fnTextFindSpec.post enc Tryz.prog Tryz.f5 false true false false) := by
  refine returnsInHanded_of_change (C := Tryz.checked) own started (by kernel_rfl) Tryz.func5
    (ChangeSpec.witness6 (enc := enc) (C := Tryz.checked) false ⟨#[], #[.int .u8 0, .string ByteArray.empty, .string ByteArray.empty, .agg #[.int .i64 0, .bool false, .slice none 0 0, .int .u64 0, .string ByteArray.empty, .slice none 0 0], .agg #[.int .i64 0, .bool false, .slice none 0 0, .int .u64 0, .string ByteArray.empty, .slice none 0 0]], []⟩ 8 (by kernel_rfl) (by kernel_rfl) (by kernel_rfl) (by kernel_rfl)) ?_
  intro W base args ds gs before hval0 hW hcnd _
  have hval : ∀ (j : Nat) t v, Tryz.f5.params[j]? = some t → args[j]? = some v → Value.okWide Tryz.prog W .any base t v := hval0
  have hW' := hW
  obtain ⟨p, q, hA0, hV, rfl, hfz, hnd⟩ := hW
  have hA : DataW.TrodAll enc Tryz.prog W 0 (fun _ => true) true Tryz.f5.params.toList args.toList ds p := hA0
  rw [Tryz.params5] at hA hval
  obtain ⟨v0, vs0, d0, ds0, p0, q0, hargs, rfl, rfl, h0, r0⟩ := trodAll_cons hA
  obtain ⟨v1, vs1, d1, ds1, p1, q1, rfl, rfl, rfl, h1, r1⟩ := trodAll_cons r0
  obtain ⟨v2, vs2, d2, ds2, p2, q2, rfl, rfl, rfl, h2, r2⟩ := trodAll_cons r1
  obtain ⟨v3, vs3, d3, ds3, p3, q3, rfl, rfl, rfl, h3, r3⟩ := trodAll_cons r2
  obtain ⟨v4, vs4, d4, ds4, p4, q4, rfl, rfl, rfl, h4, r4⟩ := trodAll_cons r3
  obtain ⟨rfl, rfl, rfl⟩ := trodAll_nil r4
  obtain rfl : args = #[v0, v1, v2, v3, v4] := by cases args; simp_all
  obtain ⟨rfl, rfl⟩ := trodVars_none hV
  obtain ⟨n0, rfl, rfl, rfl, w0⟩ := open_int Tryz.underlying5 (hval 0 5 v0 rfl rfl) h0
  have b0 := bounds_u8 w0
  obtain ⟨nn, rfl⟩ : ∃ nn : Nat, n0 = (nn : Int) := ⟨n0.toNat, by omega⟩
  obtain ⟨a1, rfl, rfl, rfl, w1⟩ := open_string Tryz.underlying9 (hval 1 9 v1 rfl rfl) h1
  obtain ⟨a2, rfl, rfl, rfl, w2⟩ := open_string Tryz.underlying9 (hval 2 9 v2 rfl rfl) h2
  have k3 := h3
  have lt3 : ∀ x ∈ p3, x.block < W.heap.size := by obtain ⟨m, hm⟩ := k3; exact DataW.trod_lt m _ _ _ hm
  have k4 := h4
  have lt4 : ∀ x ∈ p4, x.block < W.heap.size := by obtain ⟨m, hm⟩ := k4; exact DataW.trod_lt m _ _ _ hm
  obtain ⟨kd1, nb1, ma1, ml1, mc1, ub1, tx1, ka1, kn1, kc1, ms1, rfl, hin1⟩ := open_one (hval 3 26 v3 rfl rfl) h3
  obtain ⟨kd2, nb2, ma2, ml2, mc2, ub2, tx2, ka2, kn2, kc2, ms2, rfl, hin2⟩ := open_one (hval 4 26 v4 rfl rfl) h4
  clear hA0 hval0
  have hwalk := lawFind nn a1 a2 kd1 nb1 ma1 ml1 mc1 ub1 tx1 ka1 kn1 kc1 ms1 kd2 nb2 ma2 ml2 mc2 ub2 tx2 ka2 kn2 kc2 ms2 W (by omega) _ rfl hin1.2.1 hin2.2.1 hin1.2.2.2.1 hin2.2.2.2.1
  refine hwalk.mono fun e W' ⟨he, bel⟩ => ?_
  subst he
  exact ⟨_, rfl, _, _, _, [], _, [], hW', trodAll_mk1 (shut_bool Tryz.underlying4 _), (trodAll_cons_mk (shut_int Tryz.underlying5 w0) (trodAll_cons_mk (shut_string Tryz.underlying9 w1) (trodAll_cons_mk (shut_string Tryz.underlying9 w2) (trodAll_cons_mk (Below.trod laidOut (by kernel_rfl) (of_decide_eq_true (by kernel_rfl)) k3 bel lt3) (trodAll_cons_mk (Below.trod laidOut (by kernel_rfl) (of_decide_eq_true (by kernel_rfl)) k4 bel lt4) trodAll_mk0))))), rfl, bel.frame _, fun h => by cases h⟩

theorem closed : joinedFacts Tryz.pinned.checked.prog 5 Tryz.f5 Rows.fnTextFindSpec Rows.fnTextFindRow = true := by
  have hlo : laidOutB Tryz.pinned.checked.prog = true := laidOut
  unfold joinedFacts
  rw [hlo]
  show _ = true
  kernel_rfl
theorem over : Rows.fnTextFindRow.holds Tryz.pinned (OpenSpec.ofChange Rows.fnTextFindSpec) :=
  OpenClaim.holds_of_wide 5 Tryz.f5 rfl rfl rfl rfl rfl rfl rfl ⟨rfl, rfl, rfl, rfl, rfl⟩ rfl rfl rfl rfl rfl (by kernel_rfl) Tryz.func5 closed
    (of_decide_eq_true (by kernel_rfl)) (by unfold Func.isWrapper; first | (rw [if_pos (by decide +kernel)]; kernel_rfl) | (rw [if_neg (by decide +kernel)]; exact ⟨rfl, rfl⟩))
    (fun os started H enc _ => lifted os started H enc)

theorem proved : Rows.FnTextFindSaid := over
#print axioms proved
end Go.Proofs.YtoggalnjjhcmkaaGreat.fnTextFind
