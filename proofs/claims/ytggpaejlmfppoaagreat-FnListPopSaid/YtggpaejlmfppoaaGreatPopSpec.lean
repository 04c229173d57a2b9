/- The reference's side: whole64, arity; append of a slice of values of many cells, whatever its length. -/
import Derived.Test.YtggpaejlmfppoaaGreatPopPop
import Derived.Test.YtggpaejlmfppoaaGreatListOf
import Derived.Test.YtggpaejlmfppoaaGreatI64
import Derived.Test.YtggpaejlmfppoaaGreatSteps
import Derived.Maps.AppendAt
import Derived.Deep.RegionLaw
namespace Go.Proofs.YtggpaejlmfppoaaGreat
open Go.RowKit Dig
set_option linter.unusedVariables false
set_option linter.unusedSimpArgs false
set_option maxRecDepth 100000

def celI : Cel → Int
  | .int i => i
  | _ => 0
theorem celI_lim {x : Cel} (h : x.ok) : (celI x).natAbs < lim := by
  cases x with
  | int i => exact h
  | non => exact lt_lim (j := 0) (by simp [celI]) (by omega)
  | boo b => exact lt_lim (j := 0) (by simp [celI]) (by omega)
  | flt u => exact lt_lim (j := 0) (by simp [celI]) (by omega)
  | str s => exact lt_lim (j := 0) (by simp [celI]) (by omega)
  | byt s => exact lt_lim (j := 0) (by simp [celI]) (by omega)
/-- the integer of any scalar's value -/
theorem numCel_any (x : Cel) (n : Bool) (a : Option Addr) (l c : Nat) (s : ByteArray) (w : World) (h : VaC w w.heap.size (.agg #[.int .i64 x.kind, .bool n, .slice a l c, .int .u64 x.bits, .string s, .slice none 0 0]) x) (hx : x.ok) :
    Calls Tryz.prog 28 #[.agg #[.int .i64 x.kind, .bool n, .slice a l c, .int .u64 x.bits, .string s, .slice none 0 0]] w (SpPost (celI x) w) := by
  have key : ∀ (k u : Int), n = false → a = none → l = 0 → c = 0 → celI x = 0 → Calls Tryz.prog 28 #[.agg #[.int .i64 k, .bool n, .slice a l c, .int .u64 u, .string s, .slice none 0 0]] w (SpPost (celI x) w) := by
    rintro k u rfl rfl rfl rfl h0
    have := numRaw_any k false (.slice none 0 0) u s none 0 0 [] w (by simp) (by simp) (by simpa using Sl.nil _ _)
    have e : rawI false [] = celI x := by rw [h0]; rfl
    rw [e] at this
    exact this
  cases x with
  | int i =>
    obtain ⟨mag, e, ms, hm, hsl⟩ : Va w w.heap.size (.agg #[.int .i64 2, .bool n, .slice a l c, .int .u64 0, .string s, .slice none 0 0]) i := h
    simp only [Value.agg.injEq, Array.mk.injEq, List.cons.injEq, Value.bool.injEq, Value.string.injEq, true_and, and_true] at e
    obtain ⟨hn, hmag, rfl⟩ := e
    subst hmag
    have hl := hm.length_le hx
    have hv : rawI n ms = i := by
      unfold rawI
      rw [Dig.Bytes.bval hm, hn]
      by_cases h0 : i < 0 <;> simp [h0] <;> omega
    have := numRaw_any 2 n (.slice a l c) 0 ByteArray.empty none 0 0 ms w hm.lt (by omega) hsl
    rw [hv] at this
    exact this
  | non => simp [VaC] at h; obtain ⟨_, rfl, ⟨rfl, rfl, rfl⟩, _⟩ := h; exact key _ _ rfl rfl rfl rfl rfl
  | boo b => simp [VaC] at h; obtain ⟨_, rfl, ⟨rfl, rfl, rfl⟩, _⟩ := h; exact key _ _ rfl rfl rfl rfl rfl
  | flt u => simp [VaC] at h; obtain ⟨_, rfl, ⟨rfl, rfl, rfl⟩, _⟩ := h; exact key _ _ rfl rfl rfl rfl rfl
  | str t => simp [VaC] at h; obtain ⟨_, rfl, ⟨rfl, rfl, rfl⟩, _⟩ := h; exact key _ _ rfl rfl rfl rfl rfl
  | byt t => simp [VaC] at h; obtain ⟨_, rfl, ⟨rfl, rfl, rfl⟩, _⟩ := h; exact key _ _ rfl rfl rfl rfl rfl
def W64Post (x : Cel) (w : World) (e : Ending) (w' : World) : Prop :=
  ∃ k : Int, e = .returned (.tuple #[.int .i64 k, .bool (placeOf x).isSome]) ∧ (∀ i, placeOf x = some i → k = i) ∧ -9223372036854775808 ≤ k ∧ k ≤ 9223372036854775807 ∧ Below w.heap.size w w'
set_option maxHeartbeats 1600000 in
theorem whole64_any (x : Cel) (n : Bool) (a : Option Addr) (l c : Nat) (s : ByteArray) (w : World) (h : VaC w w.heap.size (.agg #[.int .i64 x.kind, .bool n, .slice a l c, .int .u64 x.bits, .string s, .slice none 0 0]) x) (hx : x.ok) :
    Calls Tryz.prog 47 #[.agg #[.int .i64 x.kind, .bool n, .slice a l c, .int .u64 x.bits, .string s, .slice none 0 0]] w (W64Post x w) := by
  have hb0 : Below w.heap.size w (w.alloc (.cells #[.int .i64 x.kind, .bool n, .slice a l c, .int .u64 x.bits, .string s, .slice none 0 0] 27)) := (Below.refl _ _).alloc (Nat.le_refl _) _
  have CN := Lib.hid (numCel_any x n a l c s _ ((h.below hb0).more hb0.size) hx)
  have HB0 := Lib.hid hb0
  have HI := Lib.hid (celI_lim hx)
  have hfit : ∀ k : Int, k = (if fits64 (celI x) then celI x else 0) → -9223372036854775808 ≤ k ∧ k ≤ 9223372036854775807 := by
    rintro k rfl
    split
    · rename_i hf; unfold fits64 at hf; simp at hf; omega
    · omega
  have hpl : ∀ k : Int, k = (if fits64 (celI x) then celI x else 0) → ∀ i, placeOf x = some i → k = i := by
    rintro k rfl i hi
    cases x with
    | int z =>
      simp only [placeOf] at hi
      split at hi
      · rename_i hf; injection hi with hi; subst hi; exact if_pos hf
      · cases hi
    | non => cases hi
    | boo b => cases hi
    | flt u => cases hi
    | str s => cases hi
    | byt s => cases hi
  have hps : (placeOf x).isSome = (decide (x.kind = 2) && fits64 (celI x)) := by
    cases x with
    | int z => simp only [placeOf, celI, Cel.kind]; cases fits64 z <;> rfl
    | non => rfl
    | boo b => rfl
    | flt u => rfl
    | str s => rfl
    | byt s => rfl
  obtain ⟨k2, hk2⟩ : ∃ k2, k2 = decide (x.kind = 2) := ⟨_, rfl⟩
  have hk2' : (x.kind == 2) = k2 := by rw [hk2]; rfl
  have hk2'' : decide (x.kind = 2) = k2 := hk2.symm
  rw [← hk2] at hps
  have HF := Lib.hid hfit; have HPL := Lib.hid hpl; have HPS := Lib.hid hps
  have HK := Blk.new w 27 [.int .i64 x.kind, .bool n, .slice a l c, .int .u64 x.bits, .string s, .slice none 0 0]
  have HK0 := Lib.hid HK
  clear h hx hb0 hfit hpl hps HK hk2
  generalize hkd : x.kind = kd at *
  generalize hub : x.bits = ub at *
  clear hkd hub
  go_enter Tryz.func47, Tryz.ntmps47
  go_wp2_with fail
  refine CN.out.mono ?_
  rintro e w1 ⟨v, rfl, hs, hb1⟩
  obtain ⟨q, p, k, d, rfl⟩ := hs.form
  have CI := Lib.hid (specInt64_any (celI x) _ w1 hs HI.out)
  have HK1 := Lib.hid (HK0.out.below hb1 HK0.out.lt)
  have HB1 := Lib.hid (HB0.out.trans (hb1.mono HB0.out.size))
  clear hs hb1 CN
  go_wp2_with fail
  refine CI.out.mono ?_
  rintro e w2 ⟨rfl, hb2⟩
  have c0 := (HK1.out.below hb2 HK1.out.lt).cell 0 (by simp)
  have HB2 := Lib.hid (HB1.out.trans (hb2.mono HB1.out.size))
  obtain ⟨kk, hkk⟩ : ∃ kk, kk = (if fits64 (celI x) then celI x else 0) := ⟨_, rfl⟩
  rw [← hkk]
  have h1 := Lib.hid (HF.out kk hkk); have h2 := Lib.hid (HPL.out kk hkk)
  have h3 : Hid ((placeOf x).isSome = (k2 && fits64 (celI x))) := HPS
  generalize fits64 (celI x) = f at *
  clear hb2 CI hkk HF HPL HPS
  cases k2 with
  | true =>
    go_wp2_with fail
    go_ret2
    exact ⟨kk, by rw [h3.out]; rfl, h2.out, h1.out.1, h1.out.2, HB2.out⟩
  | false =>
    go_wp2_with fail
    go_ret2
    exact ⟨kk, by rw [h3.out]; rfl, h2.out, h1.out.1, h1.out.2, HB2.out⟩
theorem arity01_any (a : Option Addr) (n c : Nat) (w : World) (h : n ≤ 1) : Calls Tryz.prog 18 #[.slice a n c, .int .i64 0, .int .i64 1] w fun e w' => e = .returned (.bool true) ∧ w = w' := by
  have h1 : (0 : Int) ≤ (n : Int) := by omega
  have h2 : (n : Int) ≤ 1 := by omega
  go_enter Tryz.func18, Tryz.ntmps18
  go_wp2_with fail
  go_ret
  exact ⟨rfl, rfl⟩

section
variable {P : Program} (w : World)
theorem run_append_none (base : Nat) (t ty e : TypeId) (i : TypeInfo) (size : Nat) (ht : P.underlying t = some (.slice e)) (hi : P.info? e = some i) (hsize : i.size = size)
    (v : Value) (n : Nat) (xs : List Value) (hown : w.ownsRow base e size v n xs) (c : Nat) : (Builtin.append_ #[t, t] ty #[v, .slice none 0 c]).run P w = .ok v w := by
  subst hsize
  rcases hown.2 with ⟨rfl, rfl⟩ | ⟨g, cap, cur, rfl, _, _, hnc, _⟩
  · simp [Builtin.append_, run_underlying ht, sizeOf, typeInfo, hi, Builtin.lenOf, Builtin.firstCells]
  · simp [Builtin.append_, run_underlying ht, sizeOf, typeInfo, hi, Builtin.lenOf, Builtin.firstCells, hnc, storeCells]
/-- append of any slice onto a row of the call's own -/
theorem run_append_all (base : Nat) (t ty e : TypeId) (i : TypeInfo) (z : Value) (size bytes : Nat) (ht : P.underlying t = some (.slice e)) (hi : P.info? e = some i) (hz : i.zero = some z)
    (hsize : i.size = size) (hby : i.bytes = bytes) (hzs : z.cells.size = size) (hsz : 0 < size)
    (v : Value) (n : Nat) (xs : List Value) (hown : w.ownsRow base e size v n xs)
    (A : Option Addr) (m c : Nat) (news : List Value) (hl : news.length = m * size) (hnews : 0 < m → ∃ ad, A = some ad ∧ ∀ j u, news[j]? = some u → w.cell? (ad.add j) = some u) (h1 : ∀ u ∈ news, u.oneCell' = true)
    (h63 : n + m ≤ maxLen) (hbytes : (n + m) * bytes ≤ 140737488355328) (hbase : base ≤ w.heap.size) :
    ∃ v' w', (Builtin.append_ #[t, t] ty #[v, .slice A m c]).run P w = .ok v' w' ∧ w'.ownsRow base e size v' (n + m) (xs ++ news) ∧ w.grownBy w' v.ownBlock ∧ (v'.ownBlock = v.ownBlock ∨ v'.ownBlock = some w.heap.size) := by
  cases A with
  | none =>
    have hm : m = 0 := by
      rcases Nat.eq_zero_or_pos m with h | h
      · exact h
      · obtain ⟨ad, e, _⟩ := hnews h; cases e
    subst hm
    have hn : news = [] := List.eq_nil_of_length_eq_zero (by rw [hl]; omega)
    subst hn
    exact ⟨v, w, run_append_none w base t ty e i size ht hi hsize v n xs hown c, by simpa using hown, World.grownBy.refl w _, .inl rfl⟩
  | some ad =>
    obtain ⟨v', w', h2, h3, h4, _, h6⟩ := run_append_own_at (P := P) w base t ty e i z size bytes ht hi hz hsize hby hzs hsz v n xs hown ad m c news hl (fun j u hj => by
      rcases Nat.eq_zero_or_pos m with h | h
      · have : news = [] := List.eq_nil_of_length_eq_zero (by rw [hl, h]; omega)
        rw [this] at hj; simp at hj
      · obtain ⟨ad', e, hc⟩ := hnews h
        injection e with e; subst e
        exact hc j u hj) h1 h63 hbytes hbase
    exact ⟨v', w', h2, h3, h4, h6⟩
theorem step_append_all {ops : Array Oper} {o : Oper} {a : Act} {K : Act → World → Prop} {Q : Exit → Act → World → Prop} {E : Prop} (hgd : o.guard = none) (s x : Operand) (t : TypeId)
    (ho : o.op = .call { callee := .builtin .append, args := #[s, x], argTypes := #[t, t] })
    (base : Nat) (e : TypeId) (i : TypeInfo) (z : Value) (size bytes : Nat) (ht : P.underlying t = some (.slice e)) (hi : P.info? e = some i) (hz : i.zero = some z)
    (hsize : i.size = size) (hby : i.bytes = bytes) (hzs : z.cells.size = size) (hsz : 0 < size)
    (v : Value) (n : Nat) (xs : List Value) (hs : a.eval s = v) (hown : w.ownsRow base e size v n xs)
    (A : Option Addr) (m c : Nat) (news : List Value) (hx : a.eval x = .slice A m c) (hl : news.length = m * size) (hnews : 0 < m → ∃ ad, A = some ad ∧ ∀ j u, news[j]? = some u → w.cell? (ad.add j) = some u) (h1 : ∀ u ∈ news, u.oneCell' = true)
    (h63 : n + m ≤ maxLen) (hbytes : (n + m) * bytes ≤ 140737488355328) (hbase : base ≤ w.heap.size)
    (h : ∀ v' w', w'.ownsRow base e size v' (n + m) (xs ++ news) → w.grownBy w' v.ownBlock → (v'.ownBlock = v.ownBlock ∨ v'.ownBlock = some w.heap.size) → K (a.put o.dst v') w') :
    if Region.wanted o (yielded ops a.tmps) = true then Oper.wp P o a w K Q else E := by
  have hw : Region.wanted o (yielded ops a.tmps) = true := by simp [Region.wanted, hgd]
  rw [if_pos hw]
  obtain ⟨v', w', hrun, h2, h3, h4⟩ := run_append_all (P := P) w base t o.type e i z size bytes ht hi hz hsize hby hzs hsz v n xs hown A m c news hl hnews h1 h63 hbytes hbase
  unfold Oper.wp
  simp [execOp, ho, resolve, invoke, builtin, hs, hx, hrun, Result.andThen]
  exact h _ _ h2 h3 h4
theorem wpList_append_all {ops : Array Oper} {rest : List Oper} {o : Oper} {a : Act} {Q : Exit → Act → World → Prop} (hgd : o.guard = none) (s x : Operand) (t : TypeId)
    (ho : o.op = .call { callee := .builtin .append, args := #[s, x], argTypes := #[t, t] })
    (base : Nat) (e : TypeId) (i : TypeInfo) (z : Value) (size bytes : Nat) (ht : P.underlying t = some (.slice e)) (hi : P.info? e = some i) (hz : i.zero = some z)
    (hsize : i.size = size) (hby : i.bytes = bytes) (hzs : z.cells.size = size) (hsz : 0 < size)
    (v : Value) (n : Nat) (xs : List Value) (hs : a.eval s = v) (hown : w.ownsRow base e size v n xs)
    (A : Option Addr) (m c : Nat) (news : List Value) (hx : a.eval x = .slice A m c) (hl : news.length = m * size) (hnews : 0 < m → ∃ ad, A = some ad ∧ ∀ j u, news[j]? = some u → w.cell? (ad.add j) = some u) (h1 : ∀ u ∈ news, u.oneCell' = true)
    (h63 : n + m ≤ maxLen) (hbytes : (n + m) * bytes ≤ 140737488355328) (hbase : base ≤ w.heap.size)
    (h : ∀ v' w', w'.ownsRow base e size v' (n + m) (xs ++ news) → w.grownBy w' v.ownBlock → (v'.ownBlock = v.ownBlock ∨ v'.ownBlock = some w.heap.size) → wpList P ops Q rest (a.put o.dst v') w') : wpList P ops Q (o :: rest) a w := by
  refine wpList_plain hgd fun K hK => ?_
  obtain ⟨v', w', hrun, h2, h3, h4⟩ := run_append_all (P := P) w base t o.type e i z size bytes ht hi hz hsize hby hzs hsz v n xs hown A m c news hl hnews h1 h63 hbytes hbase
  unfold Oper.wp execOp
  simp only [ho, resolve, invoke, builtin, Sem.run_bind, Sem.run_pure, Result.andThen_ok, List.map_toArray, List.map_cons, List.map_nil, hs, hx, hrun]
  exact hK _ _ (h _ _ h2 h3 h4)
end
theorem own_empty {w : World} {b : Nat} {e : TypeId} (size : Nat) (hb : Blk w b e []) : w.ownsRow b e size (.slice (some ⟨b, 0, none⟩) 0 0) 0 [] := by
  refine ⟨by simp, .inr ⟨b, 0, #[], rfl, Nat.le_refl _, hb, Nat.le_refl _, ?_, by simp, by simp⟩⟩
  simp [maxLen]
end Go.Proofs.YtggpaejlmfppoaaGreat
