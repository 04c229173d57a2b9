/- spec.reserved, IsName: they answer a bool; treeFitter.takes. Plain trees of a program: expressions, parameters and statements as one kind of tree; their names in order, how many parts they have, and which of them a text could be. No program in sight. How a program's tree lies in memory: what is read of the memory that came in is a function that no later world turns; trees read in it. No function of the program. treeFitter.takes; spec.treeKids, treeParts, treeClean, treeLiteral. spec.treeClean, treeLiteral. spec.treeLiteral at any literal; treeFitter.all, args, clauses, params, of what expr answers. treeFitter.args, clauses: of what expr answers. -/
import Derived.Test.YtoojgjhfmmohbaaGreatMBase
import Derived.Test.YtoojgjhfmmohbaaGreatProg
import Derived.Deep.CutRange
namespace Go.Proofs.YtoojgjhfmmohbaaGreat
open Go.RowKit
set_option linter.unusedVariables false
set_option linter.unusedSimpArgs false
set_option maxRecDepth 100000
def BoolEnd (w : World) (e : Ending) (w' : World) : Prop := ∃ b : Bool, e = .returned (.bool b) ∧ w = w'
set_option maxHeartbeats 3200000 in
theorem reserved_any (s : ByteArray) (w : World) : Calls Tryz.prog 27 #[.string s] w (BoolEnd w) := by
 go_enter Tryz.func27, Tryz.ntmps27
 go_wp2
 all_goals
   go_ret
   exact ⟨_, rfl, rfl⟩
set_option maxHeartbeats 3200000 in
theorem isName_any (s : ByteArray) (w : World) (hs : s.size ≤ maxLen) : Calls Tryz.prog 21 #[.string s] w (BoolEnd w) := by
 unfold maxLen at hs
 have hb : 0 ≤ s.size := Nat.zero_le _
 go_enter Tryz.func21, Tryz.ntmps21
 go_wp2_with (go_at_call 27; refine (reserved_any _ _).mono ?_; rintro e w' ⟨b, rfl, rfl⟩)
 all_goals first | (go_ret; exact ⟨_, rfl, rfl⟩) | skip
 go_loop [3] (fun i => ∃ k : Nat, k ≤ s.size ∧ i = .int .i64 k) (fun i => s.size - (intOf i).toNat)
 case atStart => exact ⟨0, Nat.zero_le _, rfl⟩
 case round =>
   obtain ⟨k, hk, rfl⟩ := hrel
   by_cases hlt : k < s.size
   · go_wp2
     all_goals first | (go_ret; exact ⟨_, rfl, rfl⟩) | (go_round; (case rel => exact ⟨k + 1, by omega, by go_num⟩); (case measure => simp [intOf]; omega))
   · go_wp2
     go_ret
     exact ⟨_, rfl, rfl⟩
end Go.Proofs.YtoojgjhfmmohbaaGreat
namespace Go.Proofs.YtoojgjhfmmohbaaGreat
set_option linter.unusedVariables false
set_option linter.unusedSimpArgs false
structure VV where
 kd : Int
 nb : Bool
 ms : List Nat
 ub : Int
 tx : ByteArray
 kn : Nat
inductive Tr where
 | mk (kd op : Int) (tx : ByteArray) (v : VV) (nm : List ByteArray) (a b c d : List Tr)
def Tr.kd : Tr → Int
 | .mk kd _ _ _ _ _ _ _ _ => kd
def Tr.a : Tr → List Tr
 | .mk _ _ _ _ _ a _ _ _ => a
def Tr.b : Tr → List Tr
 | .mk _ _ _ _ _ _ b _ _ => b
def Tr.c : Tr → List Tr
 | .mk _ _ _ _ _ _ _ c _ => c
def Tr.d : Tr → List Tr
 | .mk _ _ _ _ _ _ _ _ d => d
mutual
def nmE : Tr → List ByteArray
 | .mk kd _ tx _ _ a b _ _ => (if kd = 1 ∨ kd = 15 then [tx] else []) ++ (nmPs b ++ nmEs a) ++ (if kd = 13 then [tx] else [])
def nmEs : List Tr → List ByteArray
 | [] => []
 | t :: l => nmE t ++ nmEs l
def nmP : Tr → List ByteArray
 | .mk kd _ tx _ _ a _ _ _ => (if kd = 3 then [] else [tx]) ++ nmEs a
def nmPs : List Tr → List ByteArray
 | [] => []
 | t :: l => nmP t ++ nmPs l
end
mutual
def nmS : Tr → List ByteArray
 | .mk kd _ tx _ _ a b c d => (if kd = 3 then [tx] else []) ++ nmPs b ++ (nmEs a ++ nmSs c) ++ nmSs d
def nmSs : List Tr → List ByteArray
 | [] => []
 | t :: l => nmS t ++ nmSs l
end
mutual
def ctE : Tr → Nat
 | .mk kd _ _ _ _ a b _ _ => (if kd = 0 then 0 else 1) + ctPs b + ctEs a
def ctEs : List Tr → Nat
 | [] => 0
 | t :: l => ctE t + ctEs l
def ctP : Tr → Nat
 | .mk _ _ _ _ _ a _ _ _ => 1 + ctEs a
def ctPs : List Tr → Nat
 | [] => 0
 | t :: l => ctP t + ctPs l
end
mutual
def ctS : Tr → Nat
 | .mk _ _ _ _ _ a b c d => 1 + ctEs a + ctPs b + ctSs c + ctSs d
def ctSs : List Tr → Nat
 | [] => 0
 | t :: l => ctS t + ctSs l
end
theorem nmE_mk (kd op tx v nm a b c d) : nmE (.mk kd op tx v nm a b c d) = (if kd = 1 ∨ kd = 15 then [tx] else []) ++ (nmPs b ++ nmEs a) ++ (if kd = 13 then [tx] else []) := by rw [nmE]
theorem nmP_mk (kd op tx v nm a b c d) : nmP (.mk kd op tx v nm a b c d) = (if kd = 3 then [] else [tx]) ++ nmEs a := by rw [nmP]
theorem nmS_mk (kd op tx v nm a b c d) : nmS (.mk kd op tx v nm a b c d) = (if kd = 3 then [tx] else []) ++ nmPs b ++ (nmEs a ++ nmSs c) ++ nmSs d := by rw [nmS]
theorem ctE_mk (kd op tx v nm a b c d) : ctE (.mk kd op tx v nm a b c d) = (if kd = 0 then 0 else 1) + ctPs b + ctEs a := by rw [ctE]
theorem ctP_mk (kd op tx v nm a b c d) : ctP (.mk kd op tx v nm a b c d) = 1 + ctEs a := by rw [ctP]
theorem ctS_mk (kd op tx v nm a b c d) : ctS (.mk kd op tx v nm a b c d) = 1 + ctEs a + ctPs b + ctSs c + ctSs d := by rw [ctS]
@[simp] theorem nmEs_nil : nmEs [] = [] := by rw [nmEs]
@[simp] theorem nmEs_cons (t l) : nmEs (t :: l) = nmE t ++ nmEs l := by rw [nmEs]
@[simp] theorem nmPs_nil : nmPs [] = [] := by rw [nmPs]
@[simp] theorem nmPs_cons (t l) : nmPs (t :: l) = nmP t ++ nmPs l := by rw [nmPs]
@[simp] theorem nmSs_nil : nmSs [] = [] := by rw [nmSs]
@[simp] theorem nmSs_cons (t l) : nmSs (t :: l) = nmS t ++ nmSs l := by rw [nmSs]
@[simp] theorem ctEs_nil : ctEs [] = 0 := by rw [ctEs]
@[simp] theorem ctEs_cons (t l) : ctEs (t :: l) = ctE t + ctEs l := by rw [ctEs]
@[simp] theorem ctPs_nil : ctPs [] = 0 := by rw [ctPs]
@[simp] theorem ctPs_cons (t l) : ctPs (t :: l) = ctP t + ctPs l := by rw [ctPs]
@[simp] theorem ctSs_nil : ctSs [] = 0 := by rw [ctSs]
@[simp] theorem ctSs_cons (t l) : ctSs (t :: l) = ctS t + ctSs l := by rw [ctSs]
theorem nmEs_append (l m : List Tr) : nmEs (l ++ m) = nmEs l ++ nmEs m := by
 induction l with
 | nil => simp
 | cons t l ih => simp [ih]
theorem nmPs_append (l m : List Tr) : nmPs (l ++ m) = nmPs l ++ nmPs m := by
 induction l with
 | nil => simp
 | cons t l ih => simp [ih]
theorem nmSs_append (l m : List Tr) : nmSs (l ++ m) = nmSs l ++ nmSs m := by
 induction l with
 | nil => simp
 | cons t l ih => simp [ih]
theorem ctEs_append (l m : List Tr) : ctEs (l ++ m) = ctEs l + ctEs m := by
 induction l with
 | nil => simp
 | cons t l ih => simp [ih]; omega
theorem ctPs_append (l m : List Tr) : ctPs (l ++ m) = ctPs l + ctPs m := by
 induction l with
 | nil => simp
 | cons t l ih => simp [ih]; omega
theorem ctSs_append (l m : List Tr) : ctSs (l ++ m) = ctSs l + ctSs m := by
 induction l with
 | nil => simp
 | cons t l ih => simp [ih]; omega
structure OkV (v : VV) : Prop where
 kd : v.kd = 2 ∨ v.kd = 3 ∨ v.kd = 4 ∨ v.kd = 5
 int : v.kd = 2 → v.nb = false ∧ v.ms.length ≤ 40 ∧ (v.ms = [] ∨ v.ms[0]? ≠ some 0)
 flt : v.kd = 3 → 0 ≤ v.ub ∧ v.ub < 9218868437227405312
mutual
inductive OkE : Tr → Prop
 | name (op tx v nm c d) : OkE (.mk 1 op tx v nm [] [] c d)
 | lit (op tx v nm c d) (hv : OkV v) : OkE (.mk 2 op tx v nm [] [] c d)
 | many (kd op tx v nm a c d) (hk : kd = 3 ∨ kd = 4) (h : ∀ k ∈ a, OkE k) : OkE (.mk kd op tx v nm a [] c d)
 | dict (op tx v nm a c d) (he : a.length % 2 = 0) (h : ∀ k ∈ a, OkE k) : OkE (.mk 5 op tx v nm a [] c d)
 | unary (op tx v nm x c d) (h1 : 19 ≤ op) (h2 : op ≤ 22) (hx : OkE x) : OkE (.mk 6 op tx v nm [x] [] c d)
 | binary (op tx v nm x y c d) (h1 : 0 ≤ op) (h2 : op ≤ 18) (hx : OkE x) (hy : OkE y) : OkE (.mk 7 op tx v nm [x, y] [] c d)
 | two (kd op tx v nm x y c d) (hk : kd = 8 ∨ kd = 9 ∨ kd = 11) (hx : OkE x) (hy : OkE y) : OkE (.mk kd op tx v nm [x, y] [] c d)
 | cond (op tx v nm x y z c d) (hx : OkE x) (hy : OkE y) (hz : OkE z) : OkE (.mk 10 op tx v nm [x, y, z] [] c d)
 | slice (op tx v nm x lo hi st c d) (hx : OkE x) (h1 : OkO lo) (h2 : OkO hi) (h3 : OkO st) : OkE (.mk 12 op tx v nm [x, lo, hi, st] [] c d)
 | dot (op tx v nm x c d) (hx : OkE x) : OkE (.mk 13 op tx v nm [x] [] c d)
 | call (op tx v nm f l c d) (hf : OkE f) (h : ∀ k ∈ l, OkG k) : OkE (.mk 14 op tx v nm (f :: l) [] c d)
 | lam (op tx v nm x b c d) (hx : OkE x) (h : ∀ p ∈ b, OkP p) : OkE (.mk 18 op tx v nm [x] b c d)
 | listOf (op tx v nm x k l c d) (hx : OkE x) (hk : k.kd = 21) (h : ∀ t ∈ k :: l, OkC t) : OkE (.mk 19 op tx v nm (x :: k :: l) [] c d)
 | dictOf (op tx v nm x y k l c d) (hx : OkE x) (hy : OkE y) (hk : k.kd = 21) (h : ∀ t ∈ k :: l, OkC t) : OkE (.mk 20 op tx v nm (x :: y :: k :: l) [] c d)
 | paren (op tx v nm x c d) (hx : OkE x) : OkE (.mk 23 op tx v nm [x] [] c d)
inductive OkO : Tr → Prop
 | none (op tx v nm c d) : OkO (.mk 0 op tx v nm [] [] c d)
 | expr (t) (h : OkE t) : OkO t
inductive OkG : Tr → Prop
 | expr (t) (h : OkE t) : OkG t
 | sign (kd op tx v nm x c d) (hk : kd = 15 ∨ kd = 16 ∨ kd = 17) (hx : OkE x) : OkG (.mk kd op tx v nm [x] [] c d)
inductive OkC : Tr → Prop
 | each (op tx v nm x y c d) (hx : OkE x) (hy : OkE y) : OkC (.mk 21 op tx v nm [x, y] [] c d)
 | when (op tx v nm x c d) (hx : OkE x) : OkC (.mk 22 op tx v nm [x] [] c d)
inductive OkP : Tr → Prop
 | bare (kd op tx v nm b c d) (hk : kd = 0 ∨ kd = 2 ∨ kd = 3 ∨ kd = 4) : OkP (.mk kd op tx v nm [] b c d)
 | dflt (op tx v nm x b c d) (hx : OkE x) : OkP (.mk 1 op tx v nm [x] b c d)
end
inductive OkS : Tr → Prop
 | expr (op tx v nm x) (hx : OkE x) : OkS (.mk 0 op tx v nm [x] [] [] [])
 | asg (op tx v nm x y) (hx : OkE x) (hy : OkE y) : OkS (.mk 1 op tx v nm [x, y] [] [] [])
 | aug (op tx v nm x y) (h1 : 0 ≤ op) (h2 : op ≤ 10) (hx : OkE x) (hy : OkE y) : OkS (.mk 2 op tx v nm [x, y] [] [] [])
 | fn (op tx v nm b c) (hb : ∀ p ∈ b, OkP p) (hc : c ≠ []) (h : ∀ s ∈ c, OkS s) : OkS (.mk 3 op tx v nm [] b c [])
 | cond (op tx v nm x c d) (hx : OkE x) (hc : c ≠ []) (h : ∀ s ∈ c, OkS s) (hd : ∀ s ∈ d, OkS s) : OkS (.mk 4 op tx v nm [x] [] c d)
 | each (op tx v nm x y c) (hx : OkE x) (hy : OkE y) (hc : c ≠ []) (h : ∀ s ∈ c, OkS s) : OkS (.mk 5 op tx v nm [x, y] [] c [])
 | whil (op tx v nm x c) (hx : OkE x) (hc : c ≠ []) (h : ∀ s ∈ c, OkS s) : OkS (.mk 6 op tx v nm [x] [] c [])
 | ret0 (op tx v nm) : OkS (.mk 7 op tx v nm [] [] [] [])
 | ret1 (op tx v nm x) (hx : OkE x) : OkS (.mk 7 op tx v nm [x] [] [] [])
 | brk (kd op tx v nm) (hk : kd = 8 ∨ kd = 9 ∨ kd = 10) : OkS (.mk kd op tx v nm [] [] [] [])
 | load (op tx v nm a b c d) : OkS (.mk 11 op tx v nm a b c d)
inductive PlS : Tr → Prop
 | mk (kd op tx v nm a b c d) (hk : kd ≠ 11) (hc : ∀ s ∈ c, PlS s) (hd : ∀ s ∈ d, PlS s) : PlS (.mk kd op tx v nm a b c d)
theorem len1 {l : List Tr} (h : l.length = 1) : ∃ x, l = [x] := by match l, h with | [x], _ => exact ⟨x, rfl⟩
theorem len2 {l : List Tr} (h : l.length = 2) : ∃ x y, l = [x, y] := by match l, h with | [x, y], _ => exact ⟨x, y, rfl⟩
theorem len3 {l : List Tr} (h : l.length = 3) : ∃ x y z, l = [x, y, z] := by match l, h with | [x, y, z], _ => exact ⟨x, y, z, rfl⟩
theorem len4 {l : List Tr} (h : l.length = 4) : ∃ x y z u, l = [x, y, z, u] := by match l, h with | [x, y, z, u], _ => exact ⟨x, y, z, u, rfl⟩
theorem len0 {l : List Tr} (h : l.length = 0) : l = [] := List.length_eq_zero_iff.1 h
end Go.Proofs.YtoojgjhfmmohbaaGreat
namespace Go.Proofs.YtoojgjhfmmohbaaGreat
open Go.RowKit
set_option linter.unusedVariables false
set_option linter.unusedSimpArgs false
def Old (R : Nat → Nat → Option Value) (B : Nat) (w : World) : Prop := ∀ b o x, R b o = some x → b < B ∧ w.cell? ⟨b, o, none⟩ = some x
theorem Old.below {R : Nat → Nat → Option Value} {B : Nat} {w w' : World} (h : Old R B w) (hb : Below B w w') : Old R B w' := fun b o x hx => by
 obtain ⟨h1, h2⟩ := h b o x hx
 exact ⟨h1, (hb.cell (p := ⟨b, o, none⟩) h1).trans h2⟩
theorem Old.up {R : Nat → Nat → Option Value} {B r : Nat} {w w' : World} (h : Old R B w) (hb : Up (some r) w w') (hr : B ≤ r) (hB : B ≤ w.heap.size) : Old R B w' := h.below (Up.below hb hB (fun k hk => by injection hk with hk; omega))
theorem Old.of (w : World) : Old (fun b o => w.cell? ⟨b, o, none⟩) w.heap.size w := fun b o x hx => ⟨lt_of_cell hx, hx⟩
def RdR (R : Nat → Nat → Option Value) (b o : Nat) (cs : List Value) : Prop := ∀ i x, cs[i]? = some x → R b (o + i) = some x
theorem RdR.rd {R : Nat → Nat → Option Value} {B b o : Nat} {w : World} {cs : List Value} (h : RdR R b o cs) (ho : Old R B w) : Rd w b o cs := fun i hi => by
 rw [(ho b (o + i) _ (h i _ (List.getElem?_eq_getElem hi))).2]
 simp [List.getD_eq_getElem?_getD, List.getElem?_eq_getElem hi]
def I64 (n : Int) : Prop := -9223372036854775808 ≤ n ∧ n ≤ 9223372036854775807
def SlR (R : Nat → Nat → Option Value) (v : Value) (vs : List Value) : Prop :=
 ∃ a c, v = .slice a vs.length c ∧ vs.length ≤ c ∧ c ≤ maxLen ∧ (vs ≠ [] → ∃ b o, a = some ⟨b, o, none⟩ ∧ RdR R b o vs)
theorem SlR.sl {R : Nat → Nat → Option Value} {B : Nat} {w : World} {v : Value} {vs : List Value} (h : SlR R v vs) (ho : Old R B w) : Sl w B v vs := by
 obtain ⟨a, c, hv, hc, _, hr⟩ := h
 refine ⟨a, c, hv, hc, fun hne => ?_⟩
 obtain ⟨b, o, ha, hrd⟩ := hr hne
 refine ⟨b, o, ha, ?_, hrd.rd ho⟩
 cases vs with
 | nil => exact absurd rfl hne
 | cons x l => exact (ho b (o + 0) x (hrd 0 x rfl)).1
inductive VaR (R : Nat → Nat → Option Value) : VV → List Value → Prop
 | mk (v : VV) (ma : Option Addr) (mc : Nat) (ka : Option Addr) (kc : Nat) (hk : I64 v.kd) (hm : SlR R (.slice ma v.ms.length mc) (v.ms.map bv)) (hb : ∀ x ∈ v.ms, x < 256) (hu : 0 ≤ v.ub ∧ v.ub ≤ 18446744073709551615) (ht : v.tx.size ≤ maxLen) (hn : v.kn ≤ maxLen) : VaR R v [.int .i64 v.kd, .bool v.nb, .slice ma v.ms.length mc, .int .u64 v.ub, .string v.tx, .slice ka v.kn kc]
mutual
inductive ExV (R : Nat → Nat → Option Value) : Tr → List Value → Prop
 | mk (kd op : Int) (tx : ByteArray) (v : VV) (nm : List ByteArray) (a b c d : List Tr) (v0 v1 v2 v3 v4 v5 sk sp : Value) (hk : I64 kd) (ho : I64 op) (ht : tx.size ≤ maxLen) (hv : VaR R v [v0, v1, v2, v3, v4, v5]) (h1 : ExL R a sk) (h2 : PaL R b sp) : ExV R (.mk kd op tx v nm a b c d) [.int .i64 kd, .int .i64 op, .string tx, v0, v1, v2, v3, v4, v5, sk, sp]
inductive ExA (R : Nat → Nat → Option Value) : Nat → Nat → Tr → Prop
 | mk (b o : Nat) (t : Tr) (cs : List Value) (hr : RdR R b o cs) (h : ExV R t cs) : ExA R b o t
inductive ExL (R : Nat → Nat → Option Value) : List Tr → Value → Prop
 | emp (a : Option Addr) (c : Nat) (hm : c ≤ maxLen) : ExL R [] (.slice a 0 c)
 | row (l : List Tr) (b o c : Nat) (hc : l.length ≤ c) (hm : c ≤ maxLen) (h : ∀ i t, l[i]? = some t → ExA R b (o + i * 11) t) : ExL R l (.slice (some ⟨b, o, none⟩) l.length c)
inductive PaV (R : Nat → Nat → Option Value) : Tr → List Value → Prop
 | mk (kd op : Int) (tx : ByteArray) (v : VV) (nm : List ByteArray) (a b c d : List Tr) (sk : Value) (hk : I64 kd) (ht : tx.size ≤ maxLen) (h1 : ExL R a sk) : PaV R (.mk kd op tx v nm a b c d) [.int .i64 kd, .string tx, sk]
inductive PaA (R : Nat → Nat → Option Value) : Nat → Nat → Tr → Prop
 | mk (b o : Nat) (t : Tr) (cs : List Value) (hr : RdR R b o cs) (h : PaV R t cs) : PaA R b o t
inductive PaL (R : Nat → Nat → Option Value) : List Tr → Value → Prop
 | emp (a : Option Addr) (c : Nat) (hm : c ≤ maxLen) : PaL R [] (.slice a 0 c)
 | row (l : List Tr) (b o c : Nat) (hc : l.length ≤ c) (hm : c ≤ maxLen) (h : ∀ i t, l[i]? = some t → PaA R b (o + i * 3) t) : PaL R l (.slice (some ⟨b, o, none⟩) l.length c)
end
mutual
inductive StV (R : Nat → Nat → Option Value) : Tr → List Value → Prop
 | mk (kd op : Int) (tx : ByteArray) (v : VV) (nm : List ByteArray) (a b c d : List Tr) (sn sa sb sc sd : Value) (hk : I64 kd) (ho : I64 op) (ht : tx.size ≤ maxLen) (hn : SlR R sn (nm.map .string)) (hz : ∀ s ∈ nm, s.size ≤ maxLen) (h1 : ExL R a sa) (h2 : PaL R b sb) (h3 : StL R c sc) (h4 : StL R d sd) : StV R (.mk kd op tx v nm a b c d) [.int .i64 kd, .int .i64 op, .string tx, sn, sa, sb, sc, sd]
inductive StA (R : Nat → Nat → Option Value) : Nat → Nat → Tr → Prop
 | mk (b o : Nat) (t : Tr) (cs : List Value) (hr : RdR R b o cs) (h : StV R t cs) : StA R b o t
inductive StL (R : Nat → Nat → Option Value) : List Tr → Value → Prop
 | emp (a : Option Addr) (c : Nat) (hm : c ≤ maxLen) : StL R [] (.slice a 0 c)
 | row (l : List Tr) (b o c : Nat) (hc : l.length ≤ c) (hm : c ≤ maxLen) (h : ∀ i t, l[i]? = some t → StA R b (o + i * 8) t) : StL R l (.slice (some ⟨b, o, none⟩) l.length c)
end
section
variable {R : Nat → Nat → Option Value}
theorem ExL.form {l : List Tr} {v : Value} (h : ExL R l v) : ∃ a c, v = .slice a l.length c ∧ l.length ≤ c ∧ c ≤ maxLen ∧ (l ≠ [] → ∃ b o, a = some ⟨b, o, none⟩ ∧ ∀ i t, l[i]? = some t → ExA R b (o + i * 11) t) := by
 cases h with
 | emp a c hm => exact ⟨a, c, rfl, Nat.zero_le _, hm, fun h => absurd rfl h⟩
 | row _ b o c hc hm h => exact ⟨_, c, rfl, hc, hm, fun _ => ⟨b, o, rfl, h⟩⟩
theorem PaL.form {l : List Tr} {v : Value} (h : PaL R l v) : ∃ a c, v = .slice a l.length c ∧ l.length ≤ c ∧ c ≤ maxLen ∧ (l ≠ [] → ∃ b o, a = some ⟨b, o, none⟩ ∧ ∀ i t, l[i]? = some t → PaA R b (o + i * 3) t) := by
 cases h with
 | emp a c hm => exact ⟨a, c, rfl, Nat.zero_le _, hm, fun h => absurd rfl h⟩
 | row _ b o c hc hm h => exact ⟨_, c, rfl, hc, hm, fun _ => ⟨b, o, rfl, h⟩⟩
theorem StL.form {l : List Tr} {v : Value} (h : StL R l v) : ∃ a c, v = .slice a l.length c ∧ l.length ≤ c ∧ c ≤ maxLen ∧ (l ≠ [] → ∃ b o, a = some ⟨b, o, none⟩ ∧ ∀ i t, l[i]? = some t → StA R b (o + i * 8) t) := by
 cases h with
 | emp a c hm => exact ⟨a, c, rfl, Nat.zero_le _, hm, fun h => absurd rfl h⟩
 | row _ b o c hc hm h => exact ⟨_, c, rfl, hc, hm, fun _ => ⟨b, o, rfl, h⟩⟩
theorem ExV.form {t : Tr} {cs : List Value} (h : ExV R t cs) : ∃ kd op tx v nm a b' c d ma mc ka kc sa sc pa pc, t = .mk kd op tx v nm a b' c d ∧ cs = [.int .i64 kd, .int .i64 op, .string tx, .int .i64 v.kd, .bool v.nb, .slice ma v.ms.length mc, .int .u64 v.ub, .string v.tx, .slice ka v.kn kc, .slice sa a.length sc, .slice pa b'.length pc] ∧
   VaR R v [.int .i64 v.kd, .bool v.nb, .slice ma v.ms.length mc, .int .u64 v.ub, .string v.tx, .slice ka v.kn kc] ∧ ExL R a (.slice sa a.length sc) ∧ PaL R b' (.slice pa b'.length pc) ∧ I64 kd ∧ I64 op ∧ tx.size ≤ maxLen := by
 cases h with
 | mk kd op tx v nm a b' c d v0 v1 v2 v3 v4 v5 sk sp hk ho ht hv h1 h2 =>
   have hv' := hv
   cases hv with
   | mk ma mc ka kc =>
     obtain ⟨sa, sc, rfl, _⟩ := h1.form
     obtain ⟨pa, pc, rfl, _⟩ := h2.form
     exact ⟨kd, op, tx, v, nm, a, b', c, d, ma, mc, ka, kc, sa, sc, pa, pc, rfl, rfl, hv', h1, h2, hk, ho, ht⟩
theorem ExA.cells {B b o : Nat} {t : Tr} {w : World} (h : ExA R b o t) (ho : Old R B w) : ∃ kd op tx v nm a b' c d ma mc ka kc sa sc pa pc, t = .mk kd op tx v nm a b' c d ∧ ExV R t [.int .i64 kd, .int .i64 op, .string tx, .int .i64 v.kd, .bool v.nb, .slice ma v.ms.length mc, .int .u64 v.ub, .string v.tx, .slice ka v.kn kc, .slice sa a.length sc, .slice pa b'.length pc] ∧ (VaR R v [.int .i64 v.kd, .bool v.nb, .slice ma v.ms.length mc, .int .u64 v.ub, .string v.tx, .slice ka v.kn kc] ∧ ExL R a (.slice sa a.length sc) ∧ PaL R b' (.slice pa b'.length pc) ∧ I64 kd ∧ I64 op ∧ tx.size ≤ maxLen) ∧ b < B ∧
   w.cell? ⟨b, o, none⟩ = some (.int .i64 kd) ∧ w.cell? ⟨b, o + 1, none⟩ = some (.int .i64 op) ∧ w.cell? ⟨b, o + 2, none⟩ = some (.string tx) ∧ w.cell? ⟨b, o + 3, none⟩ = some (.int .i64 v.kd) ∧ w.cell? ⟨b, o + 4, none⟩ = some (.bool v.nb) ∧ w.cell? ⟨b, o + 5, none⟩ = some (.slice ma v.ms.length mc) ∧ w.cell? ⟨b, o + 6, none⟩ = some (.int .u64 v.ub) ∧ w.cell? ⟨b, o + 7, none⟩ = some (.string v.tx) ∧ w.cell? ⟨b, o + 8, none⟩ = some (.slice ka v.kn kc) ∧ w.cell? ⟨b, o + 9, none⟩ = some (.slice sa a.length sc) ∧ w.cell? ⟨b, o + 10, none⟩ = some (.slice pa b'.length pc) := by
 obtain ⟨_, _, _, cs, hr, hx⟩ := h
 obtain ⟨kd, op, tx, v, nm, a, b', c, d, ma, mc, ka, kc, sa, sc, pa, pc, e, rfl, hall⟩ := hx.form
 have f : ∀ i x, _ → w.cell? ⟨b, o + i, none⟩ = some x := fun i x hi => (ho b (o + i) x (hr i x hi)).2
 exact ⟨kd, op, tx, v, nm, a, b', c, d, ma, mc, ka, kc, sa, sc, pa, pc, e, hx, hall, (ho b (o + 0) _ (hr 0 _ rfl)).1, f 0 _ rfl, f 1 _ rfl, f 2 _ rfl, f 3 _ rfl, f 4 _ rfl, f 5 _ rfl, f 6 _ rfl, f 7 _ rfl, f 8 _ rfl, f 9 _ rfl, f 10 _ rfl⟩
theorem PaA.cells {B b o : Nat} {t : Tr} {w : World} (h : PaA R b o t) (ho : Old R B w) : ∃ kd op tx v nm a b' c d sa sc, t = .mk kd op tx v nm a b' c d ∧ PaV R t [.int .i64 kd, .string tx, .slice sa a.length sc] ∧ (ExL R a (.slice sa a.length sc) ∧ I64 kd ∧ tx.size ≤ maxLen) ∧ b < B ∧
   w.cell? ⟨b, o, none⟩ = some (.int .i64 kd) ∧ w.cell? ⟨b, o + 1, none⟩ = some (.string tx) ∧ w.cell? ⟨b, o + 2, none⟩ = some (.slice sa a.length sc) := by
 obtain ⟨_, _, _, cs, hr, hx⟩ := h
 have hx' := hx
 cases hx with
 | mk kd op tx v nm a b' c d sk hk ht h1 =>
   obtain ⟨sa, sc, rfl, _⟩ := h1.form
   have f : ∀ i x, _ → w.cell? ⟨b, o + i, none⟩ = some x := fun i x hi => (ho b (o + i) x (hr i x hi)).2
   exact ⟨kd, op, tx, v, nm, a, b', c, d, sa, sc, rfl, hx', ⟨h1, hk, ht⟩, (ho b (o + 0) _ (hr 0 _ rfl)).1, f 0 _ rfl, f 1 _ rfl, f 2 _ rfl⟩
theorem StA.cells {B b o : Nat} {t : Tr} {w : World} (h : StA R b o t) (ho : Old R B w) : ∃ kd op tx v nm a b' c d na nc sa sc pa pc ba bc ea ec, t = .mk kd op tx v nm a b' c d ∧ StV R t [.int .i64 kd, .int .i64 op, .string tx, .slice na nm.length nc, .slice sa a.length sc, .slice pa b'.length pc, .slice ba c.length bc, .slice ea d.length ec] ∧ (SlR R (.slice na nm.length nc) (nm.map .string) ∧ (∀ s ∈ nm, s.size ≤ maxLen) ∧ ExL R a (.slice sa a.length sc) ∧ PaL R b' (.slice pa b'.length pc) ∧ StL R c (.slice ba c.length bc) ∧ StL R d (.slice ea d.length ec) ∧ I64 kd ∧ I64 op ∧ tx.size ≤ maxLen) ∧ b < B ∧
   w.cell? ⟨b, o, none⟩ = some (.int .i64 kd) ∧ w.cell? ⟨b, o + 1, none⟩ = some (.int .i64 op) ∧ w.cell? ⟨b, o + 2, none⟩ = some (.string tx) ∧ w.cell? ⟨b, o + 3, none⟩ = some (.slice na nm.length nc) ∧ w.cell? ⟨b, o + 4, none⟩ = some (.slice sa a.length sc) ∧ w.cell? ⟨b, o + 5, none⟩ = some (.slice pa b'.length pc) ∧ w.cell? ⟨b, o + 6, none⟩ = some (.slice ba c.length bc) ∧ w.cell? ⟨b, o + 7, none⟩ = some (.slice ea d.length ec) := by
 obtain ⟨_, _, _, cs, hr, hx⟩ := h
 have hx' := hx
 cases hx with
 | mk kd op tx v nm a b' c d sn sa sb sc sd hk ho' ht hn hz h1 h2 h3 h4 =>
   obtain ⟨na, nc, hne, hn2⟩ := hn
   have hn : SlR R sn (nm.map .string) := ⟨na, nc, hne, hn2⟩
   simp only [List.length_map] at hne
   subst hne
   obtain ⟨a1, c1, rfl, _⟩ := h1.form
   obtain ⟨a2, c2, rfl, _⟩ := h2.form
   obtain ⟨a3, c3, rfl, _⟩ := h3.form
   obtain ⟨a4, c4, rfl, _⟩ := h4.form
   have f : ∀ i x, _ → w.cell? ⟨b, o + i, none⟩ = some x := fun i x hi => (ho b (o + i) x (hr i x hi)).2
   exact ⟨kd, op, tx, v, nm, a, b', c, d, na, nc, a1, c1, a2, c2, a3, c3, a4, c4, rfl, hx', ⟨hn, hz, h1, h2, h3, h4, hk, ho', ht⟩, (ho b (o + 0) _ (hr 0 _ rfl)).1, f 0 _ rfl, f 1 _ rfl, f 2 _ rfl, f 3 _ rfl, f 4 _ rfl, f 5 _ rfl, f 6 _ rfl, f 7 _ rfl⟩
end
set_option maxRecDepth 100000
def FPost (bf : Nat) (lf : Int) (w : World) (P : Int → Prop) (e : Ending) (w' : World) : Prop :=
 ∃ (b : Bool) (l : Int), e = .returned (.bool b) ∧ Blk w' bf 37 [.int .i64 l] ∧ Up (some bf) w w' ∧ -1 ≤ l ∧ l ≤ lf ∧ (b = true → 0 ≤ l ∧ P (lf - l))
set_option maxHeartbeats 800000 in
theorem takes_any (bf : Nat) (lf deep : Int) (w : World) (hb : Blk w bf 37 [.int .i64 lf]) (h0 : 0 ≤ lf) (h1 : lf ≤ 300) (hd : 0 ≤ deep) (hd2 : deep ≤ 26) :
   Calls Tryz.prog 14 #[.pointer (some ⟨bf, 0, none⟩), .int .i64 deep] w (FPost bf lf w (fun n => deep ≤ 24 ∧ 1 ≤ n)) := by
 have c0 := hb.cell 0 (by simp)
 have l0 := hb.lt
 have f0 := hb.free 0
 have HS : Hid (∀ b, (b = true → 0 ≤ lf - 1 ∧ deep ≤ 24) → FPost bf lf w (fun n => deep ≤ 24 ∧ 1 ≤ n) (.returned (.bool b)) (w.setCell ⟨bf, 0, none⟩ (.int .i64 (lf - 1)))) := Li (fun b hx =>
   ⟨b, lf - 1, rfl, by simpa using hb.set 0 (.int .i64 (lf - 1)), (Up.refl _ _).set _ _, by omega, by omega, fun h => ⟨(hx h).1, (hx h).2, by omega⟩⟩)
 clear hb
 go_enter Tryz.func14, Tryz.ntmps14
 go_wp2
 all_goals
   go_ret
   refine HS.out _ ?_
   intro h
   first | (simp at h; done) | (simp at h ⊢; done) | (simp at h ⊢; omega)
def tkK (kd : Int) : Int := if kd = 1 ∨ kd = 2 then 0 else if kd = 6 ∨ kd = 13 ∨ kd = 18 ∨ kd = 23 then 1 else if kd = 7 ∨ kd = 8 ∨ kd = 9 ∨ kd = 11 then 2 else if kd = 10 then 3 else if kd = 12 then 4 else -1
set_option maxHeartbeats 800000 in
theorem treeKids_any (kd : Int) (w : World) : Calls Tryz.prog 29 #[.int .i64 kd] w fun e w' => e = .returned (.int .i64 (tkK kd)) ∧ w = w' := by
 have H : Hid (∀ n w', tkK kd = n → w = w' → (Ending.returned (.int .i64 n) = .returned (.int .i64 (tkK kd)) ∧ w = w')) := Li (fun n w' h h' => ⟨by rw [h], h'⟩)
 go_enter Tryz.func29, Tryz.ntmps29
 go_wp2
 all_goals
   go_ret
   refine H.out _ _ ?_ rfl
   clear H
   unfold tkK
   first | (simp_all; done) | (simp_all; omega)
def tkP (kd : Int) : Int := if kd = 3 ∨ kd = 8 ∨ kd = 9 ∨ kd = 10 ∨ kd = 11 then 0 else if kd = 0 ∨ kd = 4 ∨ kd = 6 ∨ kd = 7 then 1 else if kd = 1 ∨ kd = 2 ∨ kd = 5 then 2 else -1
set_option maxHeartbeats 800000 in
theorem treeParts_any (kd : Int) (w : World) : Calls Tryz.prog 19 #[.int .i64 kd] w fun e w' => e = .returned (.int .i64 (tkP kd)) ∧ w = w' := by
 have H : Hid (∀ n w', tkP kd = n → w = w' → (Ending.returned (.int .i64 n) = .returned (.int .i64 (tkP kd)) ∧ w = w')) := Li (fun n w' h h' => ⟨by rw [h], h'⟩)
 go_enter Tryz.func19, Tryz.ntmps19
 go_wp2
 all_goals
   go_ret
   refine H.out _ _ ?_ rfl
   clear H
   unfold tkP
   first | (simp_all; done) | (simp_all; omega)
def CleanPost (kd : Int) (pn : Nat) (w : World) (e : Ending) (w' : World) : Prop := ∃ b : Bool, e = .returned (.bool b) ∧ (b = true → kd = 18 ∨ pn = 0) ∧ Below w.heap.size w w'
set_option maxHeartbeats 3200000 in
theorem treeClean_any (kd op vkd ub : Int) (tx vtx : ByteArray) (vnb : Bool) (ma ka sa pa : Option Addr) (ml mc kn kc sn sc pn pc : Nat) (w : World) :
   Calls Tryz.prog 30 #[.agg #[.int .i64 kd, .int .i64 op, .string tx, .int .i64 vkd, .bool vnb, .slice ma ml mc, .int .u64 ub, .string vtx, .slice ka kn kc, .slice sa sn sc, .slice pa pn pc]] w (CleanPost kd pn w) := by
 have HB : Hid (∀ b : Bool, (b = true → kd = 18 ∨ pn = 0) → CleanPost kd pn w (.returned (.bool b)) ((w.alloc (.cells #[.int .i64 kd, .int .i64 op, .string tx, .int .i64 vkd, .bool vnb, .slice ma ml mc, .int .u64 ub, .string vtx, .slice ka kn kc, .slice sa sn sc, .slice pa pn pc] 75)).alloc (.cells #[.int .i64 vkd, .bool vnb, .slice ma ml mc, .int .u64 ub, .string vtx, .slice ka kn kc] 73))) := Li (fun b h => ⟨b, rfl, h, ((Below.refl _ _).alloc (Nat.le_refl _) _).alloc (by simp) _⟩)
 go_enter Tryz.func30, Tryz.ntmps30
 go_upto_region 1 with fail
 obtain ⟨W, hW⟩ : ∃ W, W = w.alloc (.cells #[.int .i64 kd, .int .i64 op, .string tx, .int .i64 vkd, .bool vnb, .slice ma ml mc, .int .u64 ub, .string vtx, .slice ka kn kc, .slice sa sn sc, .slice pa pn pc] 75) := ⟨_, rfl⟩
 go_cut [3] from 7 to 19 (fun u wx => ∃ b : Bool, u = .bool b ∧ wx = W)
 case first =>
   subst hW
   go_wp2
   all_goals
     subst_vars
     go_meet
     exact ⟨_, rfl, rfl⟩
 case rest =>
 obtain ⟨b3, rfl, rfl⟩ := hcut
 subst hW
 go_upto_region 2 with fail
 obtain ⟨W, hW⟩ : ∃ W, W = w.alloc (.cells #[.int .i64 kd, .int .i64 op, .string tx, .int .i64 vkd, .bool vnb, .slice ma ml mc, .int .u64 ub, .string vtx, .slice ka kn kc, .slice sa sn sc, .slice pa pn pc] 75) := ⟨_, rfl⟩
 go_cut [4] from 20 to 27 (fun u wx => ∃ b : Bool, u = .bool b ∧ wx = W)
 case first =>
   subst hW
   go_wp2
   all_goals
     subst_vars
     go_meet
     exact ⟨_, rfl, rfl⟩
 case rest =>
 obtain ⟨b4, rfl, rfl⟩ := hcut
 subst hW
 go_upto_region 4 with fail
 obtain ⟨W, hW⟩ : ∃ W, W = (w.alloc (.cells #[.int .i64 kd, .int .i64 op, .string tx, .int .i64 vkd, .bool vnb, .slice ma ml mc, .int .u64 ub, .string vtx, .slice ka kn kc, .slice sa sn sc, .slice pa pn pc] 75)).alloc (.cells #[.int .i64 vkd, .bool vnb, .slice ma ml mc, .int .u64 ub, .string vtx, .slice ka kn kc] 73) := ⟨_, rfl⟩
 go_cut [6] from 30 to 59 (fun u wx => ∃ b : Bool, u = .bool b ∧ wx = W)
 case first =>
   subst hW
   cases vnb
   all_goals go_wp2
   all_goals
     subst_vars
     go_meet
     exact ⟨_, rfl, rfl⟩
 case rest =>
 obtain ⟨b6, rfl, rfl⟩ := hcut
 subst hW
 go_wp2
 all_goals
   subst_vars
   go_ret
   refine HB.out _ ?_
   clear HB
   first | (intro h; exact .inl rfl) | (intro h; exact .inr rfl) | simp_all
def LitPost (P : Prop) (w : World) (e : Ending) (w' : World) : Prop := ∃ b : Bool, e = .returned (.bool b) ∧ (b = true → P) ∧ Below w.heap.size w w'
set_option maxHeartbeats 3200000 in
theorem treeLitInt_nil (P : Prop) (ub : Int) (tx : ByteArray) (nb : Bool) (ma ka : Option Addr) (mc kn kc : Nat) (w : World) (hP : nb = false → P) :
   Calls Tryz.prog 31 #[.agg #[.int .i64 2, .bool nb, .slice ma 0 mc, .int .u64 ub, .string tx, .slice ka kn kc]] w (LitPost P w) := by
 have HB : Hid (∀ b : Bool, (b = true → P) → LitPost P w (.returned (.bool b)) (w.alloc (.cells #[.int .i64 2, .bool nb, .slice ma 0 mc, .int .u64 ub, .string tx, .slice ka kn kc] 73))) := Li (fun b h => ⟨b, rfl, h, (Below.refl _ _).alloc (Nat.le_refl _) _⟩)
 have HP := Li hP
 clear hP
 go_enter Tryz.func31, Tryz.ntmps31
 cases nb
 all_goals go_wp2
 all_goals
   subst_vars
   go_ret
   refine HB.out _ ?_
   clear HB
   intro h
   first | (simp at h; done) | (refine HP.out ?_; simp; done)
set_option maxHeartbeats 3200000 in
theorem treeLitInt_cons (P : Prop) (ub : Int) (tx : ByteArray) (nb : Bool) (b o x ml : Nat) (ka : Option Addr) (mc kn kc : Nat) (w : World) (hx : w.cell? ⟨b, o, none⟩ = some (.int .u8 (x : Int))) (hx2 : x < 256) (hl : 0 < ml) (hP : nb = false → ml ≤ 40 → x ≠ 0 → P) :
   Calls Tryz.prog 31 #[.agg #[.int .i64 2, .bool nb, .slice (some ⟨b, o, none⟩) ml mc, .int .u64 ub, .string tx, .slice ka kn kc]] w (LitPost P w) := by
 have HB : Hid (∀ c : Bool, (c = true → P) → LitPost P w (.returned (.bool c)) (w.alloc (.cells #[.int .i64 2, .bool nb, .slice (some ⟨b, o, none⟩) ml mc, .int .u64 ub, .string tx, .slice ka kn kc] 73))) := Li (fun b h => ⟨b, rfl, h, (Below.refl _ _).alloc (Nat.le_refl _) _⟩)
 have HP := Li hP
 clear hP
 have hl2 : ((ml : Int) == 0) = false := by rw [beq_eq_false_iff_ne]; omega
 have lb := lt_of_cell hx
 go_enter Tryz.func31, Tryz.ntmps31
 cases nb
 all_goals go_wp2
 all_goals
   subst_vars
   go_ret
   refine HB.out _ ?_
   clear HB
   intro h
   first | (simp at h; done) | (refine HP.out (by simp) (by omega) ?_; first | assumption | (simp at h; omega))
set_option maxHeartbeats 3200000 in
theorem treeLitFlt_any (P : Prop) (ub : Int) (tx : ByteArray) (nb : Bool) (ma ka : Option Addr) (ml mc kn kc : Nat) (w : World) (hu : 0 ≤ ub) (hu2 : ub ≤ 18446744073709551615) (hP : ub < 9218868437227405312 → P) :
   Calls Tryz.prog 31 #[.agg #[.int .i64 3, .bool nb, .slice ma ml mc, .int .u64 ub, .string tx, .slice ka kn kc]] w (LitPost P w) := by
 have HB : Hid (∀ c : Bool, (c = true → P) → LitPost P w (.returned (.bool c)) (w.alloc (.cells #[.int .i64 3, .bool nb, .slice ma ml mc, .int .u64 ub, .string tx, .slice ka kn kc] 73))) := Li (fun b h => ⟨b, rfl, h, (Below.refl _ _).alloc (Nat.le_refl _) _⟩)
 have HP := Li hP
 clear hP
 go_enter Tryz.func31, Tryz.ntmps31
 cases nb
 all_goals go_wp2
 all_goals
   go_ret
   try simp only [*] at *
   refine HB.out _ ?_
   clear HB
   intro h
   first | (simp at h; done) | (refine HP.out ?_; omega)
set_option maxHeartbeats 3200000 in
theorem treeLitTxt4_any (P : Prop) (ub : Int) (tx : ByteArray) (nb : Bool) (ma ka : Option Addr) (ml mc kn kc : Nat) (w : World) (hP : P) :
   Calls Tryz.prog 31 #[.agg #[.int .i64 4, .bool nb, .slice ma ml mc, .int .u64 ub, .string tx, .slice ka kn kc]] w (LitPost P w) := by
 have HB : Hid (∀ c : Bool, (c = true → P) → LitPost P w (.returned (.bool c)) (w.alloc (.cells #[.int .i64 4, .bool nb, .slice ma ml mc, .int .u64 ub, .string tx, .slice ka kn kc] 73))) := Li (fun b h => ⟨b, rfl, h, (Below.refl _ _).alloc (Nat.le_refl _) _⟩)
 have HP : Hid P := Li hP
 clear hP
 go_enter Tryz.func31, Tryz.ntmps31
 cases nb
 all_goals go_wp2
 all_goals
   subst_vars
   go_ret
   refine HB.out _ ?_
   clear HB
   intro h
   first | (simp at h; done) | exact HP.out
set_option maxHeartbeats 3200000 in
theorem treeLitTxt5_any (P : Prop) (ub : Int) (tx : ByteArray) (nb : Bool) (ma ka : Option Addr) (ml mc kn kc : Nat) (w : World) (hP : P) :
   Calls Tryz.prog 31 #[.agg #[.int .i64 5, .bool nb, .slice ma ml mc, .int .u64 ub, .string tx, .slice ka kn kc]] w (LitPost P w) := by
 have HB : Hid (∀ c : Bool, (c = true → P) → LitPost P w (.returned (.bool c)) (w.alloc (.cells #[.int .i64 5, .bool nb, .slice ma ml mc, .int .u64 ub, .string tx, .slice ka kn kc] 73))) := Li (fun b h => ⟨b, rfl, h, (Below.refl _ _).alloc (Nat.le_refl _) _⟩)
 have HP : Hid P := Li hP
 clear hP
 go_enter Tryz.func31, Tryz.ntmps31
 cases nb
 all_goals go_wp2
 all_goals
   subst_vars
   go_ret
   refine HB.out _ ?_
   clear HB
   intro h
   first | (simp at h; done) | exact HP.out
set_option maxHeartbeats 3200000 in
theorem treeLitNo_any (P : Prop) (kd : Int) (ub : Int) (tx : ByteArray) (nb : Bool) (ma ka : Option Addr) (ml mc kn kc : Nat) (w : World) (h2 : ¬ kd = 2) (h3 : ¬ kd = 3) (h4 : ¬ kd = 4) (h5 : ¬ kd = 5) :
   Calls Tryz.prog 31 #[.agg #[.int .i64 kd, .bool nb, .slice ma ml mc, .int .u64 ub, .string tx, .slice ka kn kc]] w (LitPost P w) := by
 have HB : Hid (∀ c : Bool, (c = true → P) → LitPost P w (.returned (.bool c)) (w.alloc (.cells #[.int .i64 kd, .bool nb, .slice ma ml mc, .int .u64 ub, .string tx, .slice ka kn kc] 73))) := Li (fun b h => ⟨b, rfl, h, (Below.refl _ _).alloc (Nat.le_refl _) _⟩)
 go_enter Tryz.func31, Tryz.ntmps31
 cases nb
 all_goals go_wp2
 all_goals
   subst_vars
   go_ret
   refine HB.out _ ?_
   clear HB
   intro h
   simp at h
theorem treeLiteral_any {R : Nat → Nat → Option Value} {B : Nat} {w : World} (v : VV) (ma : Option Addr) (mc : Nat) (ka : Option Addr) (kc : Nat) (h : VaR R v [.int .i64 v.kd, .bool v.nb, .slice ma v.ms.length mc, .int .u64 v.ub, .string v.tx, .slice ka v.kn kc]) (ho : Old R B w) :
   Calls Tryz.prog 31 #[.agg #[.int .i64 v.kd, .bool v.nb, .slice ma v.ms.length mc, .int .u64 v.ub, .string v.tx, .slice ka v.kn kc]] w (LitPost (OkV v) w) := by
 cases h with
 | mk _ _ _ _ hk hm hb hu ht hn =>
 obtain ⟨kd, nb, ms, ub, tx, kn⟩ := v
 simp only at *
 by_cases h2 : kd = 2
 · subst h2
   cases ms with
   | nil => exact treeLitInt_nil _ _ _ _ _ _ _ _ _ _ (fun h => ⟨.inl rfl, fun _ => ⟨h, by simp, .inl rfl⟩, fun h => by simp at h⟩)
   | cons x l =>
     obtain ⟨a, c, e, _, _, hr⟩ := hm
     simp only [Value.slice.injEq, List.length_map, true_and] at e
     obtain ⟨rfl, rfl⟩ := e
     obtain ⟨b, o, rfl, hrd⟩ := hr (by simp)
     have hc := (ho b (o + 0) _ (hrd 0 (bv x) rfl)).2
     exact treeLitInt_cons _ _ _ _ _ _ x _ _ _ _ _ _ hc (hb x (by simp)) (by simp) (fun h1 h2 h3 => ⟨.inl rfl, fun _ => ⟨h1, h2, .inr (by simpa using h3)⟩, fun h => by simp at h⟩)
 · by_cases h3 : kd = 3
   · subst h3
     exact treeLitFlt_any _ _ _ _ _ _ _ _ _ _ _ hu.1 hu.2 (fun h => ⟨.inr (.inl rfl), fun h => by simp at h, fun _ => ⟨hu.1, h⟩⟩)
   · by_cases h4 : kd = 4
     · subst h4
       exact treeLitTxt4_any _ _ _ _ _ _ _ _ _ _ _ ⟨.inr (.inr (.inl rfl)), fun h => by simp at h, fun h => by simp at h⟩
     · by_cases h5 : kd = 5
       · subst h5
         exact treeLitTxt5_any _ _ _ _ _ _ _ _ _ _ _ ⟨.inr (.inr (.inr rfl)), fun h => by simp at h, fun h => by simp at h⟩
       · exact treeLitNo_any _ _ _ _ _ _ _ _ _ _ _ _ h2 h3 h4 h5
def FEx (R : Nat → Nat → Option Value) (B bf : Nat) (t : Tr) : Prop := ∀ (cs : List Value) (deep lf : Int) (w : World), ExV R t cs → Old R B w → B ≤ w.heap.size → B ≤ bf → Blk w bf 37 [.int .i64 lf] → 0 ≤ lf → lf ≤ 300 → 0 ≤ deep → deep ≤ 25 →
 Calls Tryz.prog 26 #[.pointer (some ⟨bf, 0, none⟩), .agg cs.toArray, .int .i64 deep] w (FPost bf lf w (fun n => OkE t ∧ (ctE t : Int) ≤ n))
def FRel (bf : Nat) (lf : Int) (w : World) (l : List Tr) (P : Tr → Prop) (C : List Tr → Nat) (i : Value) (wr : World) : Prop :=
 ∃ (k : Nat) (lk : Int), k ≤ l.length ∧ i = .int .i64 (k : Int) ∧ Hid (Blk wr bf 37 [.int .i64 lk]) ∧ Hid (Up (some bf) w wr) ∧ 0 ≤ lk ∧ lk ≤ lf ∧ Hid ((∀ t ∈ l.take k, P t) ∧ (C (l.take k) : Int) ≤ lf - lk)
theorem take_succ_of {l : List Tr} {k : Nat} {t : Tr} (h : l[k]? = some t) : l.take (k + 1) = l.take k ++ [t] := by
 obtain ⟨hlt, rfl⟩ := List.getElem?_eq_some_iff.1 h
 rw [List.take_succ_eq_append_getElem hlt]
theorem FRel.step {bf : Nat} {lf : Int} {w wr w1 : World} {l : List Tr} {P : Tr → Prop} {C : List Tr → Nat} {k : Nat} {lk l1 : Int} {t : Tr} (ht : l[k]? = some t) (hu : Up (some bf) w wr) (hlf : lk ≤ lf) (hok : (∀ t ∈ l.take k, P t) ∧ (C (l.take k) : Int) ≤ lf - lk)
   (hb1 : Blk w1 bf 37 [.int .i64 l1]) (hu1 : Up (some bf) wr w1) (h0 : 0 ≤ l1) (hl1 : l1 ≤ lk) (hP : P t) (hC : ((C (l.take k ++ [t]) : Nat) : Int) ≤ C (l.take k) + (lk - l1)) : FRel bf lf w l P C (.int .i64 ((k : Int) + 1)) w1 := by
 have hk := (List.getElem?_eq_some_iff.1 ht).1
 refine ⟨k + 1, l1, hk, by simp, Li hb1, Li (hu.trans hu1), h0, by omega, Li ⟨?_, ?_⟩⟩
 · rw [take_succ_of ht]
   intro x hx
   rcases List.mem_append.1 hx with h | h
   · exact hok.1 x h
   · simp at h; subst h; exact hP
 · rw [take_succ_of ht]
   have := hok.2
   omega
set_option maxHeartbeats 1600000 in
theorem all_of {R : Nat → Nat → Option Value} {B bf : Nat} {l : List Tr} (HE : ∀ t ∈ l, FEx R B bf t) (a : Option Addr) (c : Nat) (deep lf : Int) (w : World) (hl : ExL R l (.slice a l.length c)) (ho : Old R B w) (hB : B ≤ w.heap.size) (hbf : B ≤ bf) (hb : Blk w bf 37 [.int .i64 lf]) (h0 : 0 ≤ lf) (h300 : lf ≤ 300) (hd : 0 ≤ deep) (hd2 : deep ≤ 25) :
   Calls Tryz.prog 20 #[.pointer (some ⟨bf, 0, none⟩), .slice a l.length c, .int .i64 deep] w (FPost bf lf w (fun n => (∀ t ∈ l, OkE t) ∧ (ctEs l : Int) ≤ n)) := by
 obtain ⟨a', c', e, hc, hm, hrow⟩ := hl.form
 simp only [Value.slice.injEq, true_and] at e
 obtain ⟨rfl, rfl⟩ := e
 unfold maxLen at hm
 have START : Hid (FRel bf lf w l OkE ctEs (.int .i64 0) w) := Li ⟨0, lf, Nat.zero_le _, rfl, Li hb, Li (Up.refl _ _), h0, Int.le_refl _, Li ⟨by simp, by simp⟩⟩
 have HEH := Li HE; have HO := Li ho; have HR := Li hrow
 clear HE hb hl ho hrow
 go_enter Tryz.func20, Tryz.ntmps20
 go_wp2_with fail
 go_loopw [11] (FRel bf lf w l OkE ctEs) (fun i _ => l.length - (intOf i).toNat)
 case atStart => exact START.out
 case round =>
   obtain ⟨k, lk, hk, rfl, HBK, HUP, hk0, hkl, HOK⟩ := hrel
   clear START
   by_cases hlt : k < l.length
   · obtain ⟨t, ht⟩ : ∃ t, l[k]? = some t := ⟨_, List.getElem?_eq_getElem hlt⟩
     have hwr : Old R B wr := HO.out.up HUP.out hbf hB
     obtain ⟨b, o, rfl, hx⟩ := HR.out (by intro h; rw [h] at hlt; simp at hlt)
     obtain ⟨kd, op, tx, v, nm, ca, cb, cc, cd, ma, mc, ka, kc, sa, sc, pa, pc, et, hxv, ⟨hvr, hxa, hpb, hkr, hor, htx⟩, hbB, c0, c1, c2, c3, c4, c5, c6, c7, c8, c9, c10⟩ := (hx k t ht).cells hwr
     have hsz : B ≤ wr.heap.size := Nat.le_trans hB HUP.out.size
     have HC := Li (HEH.out t (List.mem_of_getElem? ht) _ deep lk ((wr.alloc (.cells #[.int .i64 kd, .int .i64 op, .string tx, .int .i64 v.kd, .bool v.nb, .slice ma v.ms.length mc, .int .u64 v.ub, .string v.tx, .slice ka v.kn kc, .slice sa ca.length sc, .slice pa cb.length pc] 75))) hxv (hwr.up ((Up.refl (some bf) wr).alloc _) hbf hsz) (by simp; omega) hbf (HBK.out.alloc _) hk0 (by omega) hd hd2)
     have HT := Li ht
     clear hxv hwr ht et hx hvr hxa hpb hkr hor htx
     go_wp2_with fail
     refine HC.out.mono ?_
     rintro e w1 ⟨y, l1, rfl, hb1, hu1, hl1, hl2, hok⟩
     have hu1' : Up (some bf) wr w1 := ((Up.refl (some bf) wr).alloc _).trans hu1
     cases y with
     | false =>
       have FIN : Hid (FPost bf lf w (fun n => (∀ t ∈ l, OkE t) ∧ (ctEs l : Int) ≤ n) (.returned (.bool false)) w1) := Li ⟨false, l1, rfl, hb1, HUP.out.trans hu1', hl1, by omega, fun h => by simp at h⟩
       clear hb1 hu1 hu1' hok HC
       go_wp2_with fail
       go_ret
       exact FIN.out
     | true =>
       obtain ⟨h01, hP, hC⟩ := hok rfl
       have FIN : Hid (FRel bf lf w l OkE ctEs (.int .i64 ((k : Int) + 1)) w1) := Li (FRel.step HT.out HUP.out hkl HOK.out hb1 hu1' h01 hl2 hP (by rw [ctEs_append]; simp only [ctEs_cons, ctEs_nil]; omega))
       clear hb1 hu1 hu1' hok HC hP hC
       go_wp2_with fail
       go_roundw
       case rel => first | exact FIN.out | ((repeat apply Exists.intro); exact ⟨FIN.out, rfl⟩)
       case measure => simp [intOf]; omega
   · obtain rfl : k = l.length := by omega
     have FIN : Hid (FPost bf lf w (fun n => (∀ t ∈ l, OkE t) ∧ (ctEs l : Int) ≤ n) (.returned (.bool true)) wr) := Li ⟨true, lk, rfl, HBK.out, HUP.out, by omega, hkl, fun _ => ⟨hk0, by have := HOK.out; rwa [List.take_of_length_le (Nat.le_refl _)] at this⟩⟩
     clear HBK HUP HOK
     go_wp2_with fail
     go_ret
     exact FIN.out
theorem FPost.no {bf : Nat} {lf lk l1 : Int} {w wr w1 : World} {P : Int → Prop} (hu : Up (some bf) w wr) (hl : lk ≤ lf) (hb1 : Blk w1 bf 37 [.int .i64 l1]) (hu1 : Up (some bf) wr w1) (h1 : -1 ≤ l1) (h2 : l1 ≤ lk) : FPost bf lf w P (.returned (.bool false)) w1 :=
 ⟨false, l1, rfl, hb1, hu.trans hu1, h1, by omega, fun h => by simp at h⟩
theorem FPost.yes {bf : Nat} {lf lk : Int} {w wr : World} {l : List Tr} {Q : Tr → Prop} {C : List Tr → Nat} {P : Int → Prop} (hb : Blk wr bf 37 [.int .i64 lk]) (hu : Up (some bf) w wr) (h0 : 0 ≤ lk) (hl : lk ≤ lf) (hok : (∀ t ∈ l.take l.length, Q t) ∧ (C (l.take l.length) : Int) ≤ lf - lk) (hP : (∀ t ∈ l, Q t) → (C l : Int) ≤ lf - lk → P (lf - lk)) : FPost bf lf w P (.returned (.bool true)) wr :=
 ⟨true, lk, rfl, hb, hu, by omega, hl, fun _ => ⟨h0, by rw [List.take_of_length_le (Nat.le_refl _)] at hok; exact hP hok.1 hok.2⟩⟩
set_option maxHeartbeats 3200000 in
theorem args_of {R : Nat → Nat → Option Value} {B bf : Nat} {l : List Tr} (HE : ∀ t ∈ l, FEx R B bf t ∧ ∀ k ∈ t.a, FEx R B bf k) (a : Option Addr) (c : Nat) (deep lf : Int) (w : World) (hl : ExL R l (.slice a l.length c)) (ho : Old R B w) (hB : B ≤ w.heap.size) (hbf : B ≤ bf) (hb : Blk w bf 37 [.int .i64 lf]) (h0 : 0 ≤ lf) (h300 : lf ≤ 300) (hd : 0 ≤ deep) (hd2 : deep ≤ 25) :
   Calls Tryz.prog 32 #[.pointer (some ⟨bf, 0, none⟩), .slice a l.length c, .int .i64 deep] w (FPost bf lf w (fun n => (∀ t ∈ l, OkG t) ∧ (ctEs l : Int) ≤ n)) := by
 obtain ⟨a', c', e, hc, hm, hrow⟩ := hl.form
 simp only [Value.slice.injEq, true_and] at e
 obtain ⟨rfl, rfl⟩ := e
 unfold maxLen at hm
 have START : Hid (FRel bf lf w l OkG ctEs (.int .i64 0) w) := Li ⟨0, lf, Nat.zero_le _, rfl, Li hb, Li (Up.refl _ _), h0, Int.le_refl _, Li ⟨by simp, by simp⟩⟩
 have HEH := Li HE; have HO := Li ho; have HR := Li hrow
 clear HE hb hl ho hrow
 go_enter Tryz.func32, Tryz.ntmps32
 go_wp2_with fail
 go_loopw [11] (FRel bf lf w l OkG ctEs) (fun i _ => l.length - (intOf i).toNat)
 case atStart => exact START.out
 case round =>
   obtain ⟨k, lk, hk, rfl, HBK, HUP, hk0, hkl, HOK⟩ := hrel
   clear START
   by_cases hlt : k < l.length
   · obtain ⟨t, ht⟩ : ∃ t, l[k]? = some t := ⟨_, List.getElem?_eq_getElem hlt⟩
     have hwr : Old R B wr := HO.out.up HUP.out hbf hB
     obtain ⟨b, o, rfl, hx⟩ := HR.out (by intro h; rw [h] at hlt; simp at hlt)
     obtain ⟨kd, op, tx, v, nm, ca, cb, cc, cd, ma, mc, ka, kc, sa, sc, pa, pc, et, hxv, ⟨hvr, hxa, hpb, hkr, hor, htx⟩, hbB, c0, c1, c2, c3, c4, c5, c6, c7, c8, c9, c10⟩ := (hx k t ht).cells hwr
     have hsz : B ≤ wr.heap.size := Nat.le_trans hB HUP.out.size
     obtain ⟨W0, hW0⟩ : ∃ W0, W0 = wr.alloc (.cells #[.int .i64 kd, .int .i64 op, .string tx, .int .i64 v.kd, .bool v.nb, .slice ma v.ms.length mc, .int .u64 v.ub, .string v.tx, .slice ka v.kn kc, .slice sa ca.length sc, .slice pa cb.length pc] 75) := ⟨_, rfl⟩
     have hu0 : Up (some bf) wr W0 := by rw [hW0]; exact (Up.refl (some bf) wr).alloc _
     have E0 : Blk W0 wr.heap.size 75 [.int .i64 kd, .int .i64 op, .string tx, .int .i64 v.kd, .bool v.nb, .slice ma v.ms.length mc, .int .u64 v.ub, .string v.tx, .slice ka v.kn kc, .slice sa ca.length sc, .slice pa cb.length pc] := by rw [hW0]; exact Blk.new wr _ _
     have hW0s : W0.heap.size = wr.heap.size + 1 := by rw [hW0]; simp
     have hbl := HBK.out.lt
     have hK0 : Blk W0 bf 37 [.int .i64 lk] := by rw [hW0]; exact HBK.out.alloc _
     have hO0 : Old R B W0 := hwr.up hu0 hbf hsz
     have HC := Li ((HEH.out t (List.mem_of_getElem? ht)).1 _ deep lk W0 hxv hO0 (by omega) hbf hK0 hk0 (by omega) hd hd2)
     have HT := Li ht
     have HET := Li et
     have HXV := Li hxv
     have HKS := Li (HEH.out t (List.mem_of_getElem? ht)).2
     have hne : wr.heap.size ≠ bf := by omega
     have HTX := Li htx
     have HXA := Li hxa
     clear hxv hwr ht et hx hvr hxa hpb hkr hor htx
     by_cases h3 : kd = 15 ∨ kd = 16 ∨ kd = 17
     · have HU0 := Li hu0
       have HO0 := Li hO0
       have HK0 := Li hK0
       have HE0 := Li E0
       have HCL := Li (treeClean_any kd op v.kd v.ub tx v.tx v.nb ma ka sa pa v.ms.length mc v.kn kc ca.length sc cb.length pc W0)
       subst hW0
       clear hu0 E0 hK0 hO0 HC
       rcases h3 with rfl | rfl | rfl
       all_goals
         go_wp2_with fail
         refine HCL.out.mono ?_
         rintro e w1 ⟨y, rfl, hcl, hb1⟩
         have hE1 := HE0.out.below hb1 (by simp)
         have HK1 := Li (HK0.out.below hb1 (by simp; omega))
         have HU1 := Li (HU0.out.trans (Up.of_below hb1))
         have d0 := hE1.cell 0 (by simp)
         have d2 := hE1.cell 2 (by simp)
         have d9 := hE1.cell 9 (by simp)
         have HE1 := Li hE1
         have HCN := Li hcl
         clear hE1 hb1 HCL hcl
         cases y with
         | false =>
           have FIN : Hid (FPost bf lf w (fun n => (∀ t ∈ l, OkG t) ∧ (ctEs l : Int) ≤ n) (.returned (.bool false)) w1) := Li (FPost.no HUP.out hkl HK1.out HU1.out (by omega) (Int.le_refl _))
           clear HK1 HU1 HE1
           go_wp2_with fail
           go_ret
           exact FIN.out
         | true =>
           have hcb : cb = [] := by rcases HCN.out rfl with h | h <;> first | omega | exact len0 h
           by_cases hn : ca.length = 1
           · obtain ⟨x, hx1⟩ := len1 hn
             have HCA := Li hx1
             have TK := Li (takes_any bf lk deep w1 HK1.out hk0 (by omega) hd (by omega))
             have HCB := Li hcb
             have hn' : (ca.length : Int) = 1 := by omega
             clear hx1 hcb
             go_wp2_with (go_at_call 21; refine (isName_any _ _ HTX.out).mono ?_; rintro e w' ⟨y, rfl, rfl⟩; cases y)
             all_goals first | (have FIN : Hid (FPost bf lf w (fun n => (∀ t ∈ l, OkG t) ∧ (ctEs l : Int) ≤ n) (.returned (.bool false)) w1) := Li (FPost.no HUP.out hkl HK1.out HU1.out (by omega) (Int.le_refl _)); go_ret; exact FIN.out) | skip
             all_goals
               refine TK.out.mono ?_
               rintro e w2 ⟨y, l2, rfl, hb2, hu2, hl1, hl2, hok2⟩
               have HK2 := Li hb2
               have HU2 := Li (HU1.out.trans hu2)
               have hE2 := HE1.out.up hu2 (by simp only [ne_eq, Option.some.injEq]; exact hne)
               have hO2 : Old R B w2 := HO.out.up (HUP.out.trans HU2.out) hbf hB
               have d9 := hE2.cell 9 (by simp)
               have HO2 := Li hO2
               have hw2 : B ≤ w2.heap.size := Nat.le_trans hB (HUP.out.trans HU2.out).size
               clear hE2 hO2 hb2 hu2 TK HE1 HK1 HU1
               cases y with
               | false =>
                 have FIN : Hid (FPost bf lf w (fun n => (∀ t ∈ l, OkG t) ∧ (ctEs l : Int) ≤ n) (.returned (.bool false)) w2) := Li (FPost.no HUP.out hkl HK2.out HU2.out hl1 hl2)
                 clear HK2 HU2 hok2
                 go_wp2_with fail
                 go_ret
                 exact FIN.out
               | true =>
                 obtain ⟨h02, hdp, h12⟩ := hok2 rfl
                 obtain ⟨a3, c3', e3, hc3, hm3, hrow3⟩ := HXA.out.form
                 obtain ⟨b3, o3, ha3, hx3⟩ := hrow3 (by rw [HCA.out]; simp)
                 simp only [Value.slice.injEq, true_and] at e3
                 obtain ⟨rfl, rfl⟩ := e3
                 subst ha3
                 obtain ⟨kd', op', tx', v', nm', ca', cb', cc', cd', ma', mc', ka', kc', sa', sc', pa', pc', et', hxv', ⟨hvr', hxa', hpb', hkr', hor', htx'⟩, hbB', q0, q1, q2, q3, q4, q5, q6, q7, q8, q9, q10⟩ := (hx3 0 x (by rw [HCA.out]; rfl)).cells HO2.out
                 rw [Nat.zero_mul, Nat.add_zero] at q0 q1 q2 q3 q4 q5 q6 q7 q8 q9 q10
                 have HC := Li (HKS.out x (by rw [HET.out]; show x ∈ ca; rw [HCA.out]; simp) _ (deep + 1) l2 w2 hxv' HO2.out hw2 hbf HK2.out h02 (by omega) (by omega) (by omega))
                 clear hok2 hrow3 hx3 et' hxv' hvr' hxa' hpb' hkr' hor' htx'
                 go_wp2_with fail
                 refine HC.out.mono ?_
                 rintro e w3 ⟨y, l3, rfl, hb3, hu3, hl31, hl32, hok3⟩
                 cases y with
                 | false =>
                   have FIN : Hid (FPost bf lf w (fun n => (∀ t ∈ l, OkG t) ∧ (ctEs l : Int) ≤ n) (.returned (.bool false)) w3) := Li (FPost.no HUP.out hkl hb3 (HU2.out.trans hu3) hl31 (by omega))
                   clear HK2 HU2 hb3 hu3 hok3 HC
                   go_wp2_with fail
                   go_ret
                   exact FIN.out
                 | true =>
                   obtain ⟨h03, hP3, hC3⟩ := hok3 rfl
                   have FIN : Hid (FRel bf lf w l OkG ctEs (.int .i64 ((k : Int) + 1)) w3) := Li (FRel.step HT.out HUP.out hkl HOK.out hb3 (HU2.out.trans hu3) h03 (by omega) (by rw [HET.out, HCA.out, HCB.out]; exact .sign _ _ _ _ _ _ _ _ (by omega) hP3) (by rw [ctEs_append, HET.out, HCA.out, HCB.out]; simp only [ctEs_cons, ctEs_nil, ctE_mk, ctPs_nil]; simp; omega))
                   clear hb3 hu3 hok3 HC hP3 hC3
                   go_wp2_with fail
                   go_roundw
                   case rel => first | exact FIN.out | ((repeat apply Exists.intro); exact ⟨FIN.out, rfl⟩)
                   case measure => simp [intOf]; omega
           · have FIN : Hid (FPost bf lf w (fun n => (∀ t ∈ l, OkG t) ∧ (ctEs l : Int) ≤ n) (.returned (.bool false)) w1) := Li (FPost.no HUP.out hkl HK1.out HU1.out (by omega) (Int.le_refl _))
             have hn' : ¬ (ca.length : Int) = 1 := by omega
             have hn2 : ((ca.length : Int) != 1) = true := by simp; omega
             clear HK1 HU1 HE1 hcb
             go_wp2_with fail
             go_ret
             exact FIN.out
     · have HU0 := Li hu0
       subst hW0
       clear hu0 E0 hK0 hO0
       have n1 : ¬ kd = 15 := by omega
       have n2 : ¬ kd = 16 := by omega
       have n3 : ¬ kd = 17 := by omega
       clear h3
       go_wp2_with fail
       refine HC.out.mono ?_
       rintro e w1 ⟨y, l1, rfl, hb1, hu1, hl1, hl2, hok⟩
       cases y with
       | false =>
         have FIN : Hid (FPost bf lf w (fun n => (∀ t ∈ l, OkG t) ∧ (ctEs l : Int) ≤ n) (.returned (.bool false)) w1) := Li (FPost.no HUP.out hkl hb1 (HU0.out.trans hu1) hl1 hl2)
         clear hb1 hu1 hok HC
         go_wp2_with fail
         go_ret
         exact FIN.out
       | true =>
         obtain ⟨h01, hP, hC⟩ := hok rfl
         have FIN : Hid (FRel bf lf w l OkG ctEs (.int .i64 ((k : Int) + 1)) w1) := Li (FRel.step HT.out HUP.out hkl HOK.out hb1 (HU0.out.trans hu1) h01 hl2 (.expr _ hP) (by rw [ctEs_append]; simp only [ctEs_cons, ctEs_nil]; omega))
         clear hb1 hu1 hok HC hP hC
         go_wp2_with fail
         go_roundw
         case rel => first | exact FIN.out | ((repeat apply Exists.intro); exact ⟨FIN.out, rfl⟩)
         case measure => simp [intOf]; omega
   · obtain rfl : k = l.length := by omega
     have FIN : Hid (FPost bf lf w (fun n => (∀ t ∈ l, OkG t) ∧ (ctEs l : Int) ≤ n) (.returned (.bool true)) wr) := Li (FPost.yes HBK.out HUP.out hk0 hkl HOK.out (fun h1 h2 => ⟨h1, h2⟩))
     clear HBK HUP HOK
     go_wp2_with fail
     go_ret
     exact FIN.out
end Go.Proofs.YtoojgjhfmmohbaaGreat
