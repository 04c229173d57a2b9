/- Plain arithmetic of digits: a list of digits in a base, the lowest first, and the number that it stands for; bytes, the highest first. No program in sight. How numbers lie in memory: cells from a place on, blocks that are known whole, slices that read as lists; what keeps them. No function of the program. Plain arithmetic of rows of digits: one round of the loops that add, subtract and multiply them. No program in sight. What a number is in memory: a nat (words), a *big.Int, a starlark.Int, a spec.Int, an impl.Val of the kind Int, each by the number that it stands for. No function of the program; types by their numbers. An append onto a row of the call's own, of a source that may be nil or empty; cuts of slices. No function of the program. The steps of a region with their usual proofs laid in, and short names of the lemmas that a printed walk names often. No function of the program. -/
import Derived.WalkKit
import Derived.ProofKit
import Derived.Handy
import Derived.Below
import Derived.WalkSmall
import Derived.Lib.Hide
import Derived.Deep.QuietTactic
import Derived.BigQuiet
import Derived.Deep.Draws
import Derived.Laws.Rows
import Derived.OwnWalk
import Derived.Laws.AppendOwnNone
import Derived.Laws.OwnMore
import Derived.Laws.CopyOwn
import Derived.OrdersHeld
import Derived.Deep.RegionHeld3
namespace Go.Proofs.YtoojgjhfmmohbaaGreat.Dig
def nval (B : Nat) : List Nat → Nat
 | [] => 0
 | x :: xs => x + B * nval B xs
def Nrm (xs : List Nat) : Prop := xs.getLast? ≠ some 0
structure Rep (B : Nat) (xs : List Nat) (m : Nat) : Prop where
 lt : ∀ x ∈ xs, x < B
 val : nval B xs = m
 nrm : Nrm xs
theorem nval_append (B : Nat) (xs ys : List Nat) : nval B (xs ++ ys) = nval B xs + B ^ xs.length * nval B ys := by
 induction xs with
 | nil => simp [nval]
 | cons x xs ih =>
   simp only [List.cons_append, nval, ih, List.length_cons, Nat.pow_succ]
   rw [Nat.mul_add, ← Nat.mul_assoc, Nat.mul_comm B (B ^ xs.length), Nat.add_assoc]
theorem nval_lt (B : Nat) (xs : List Nat) (h : ∀ x ∈ xs, x < B) : nval B xs < B ^ xs.length := by
 induction xs with
 | nil => simp [nval]
 | cons x xs ih =>
   have h1 := h x (by simp)
   have h2 := ih (fun y hy => h y (by simp [hy]))
   simp only [nval, List.length_cons, Nat.pow_succ]
   have : B * (nval B xs + 1) ≤ B ^ xs.length * B := by rw [Nat.mul_comm]; exact Nat.mul_le_mul_right _ h2
   rw [Nat.mul_add] at this
   omega
theorem nval_replicate (B n : Nat) : nval B (List.replicate n 0) = 0 := by
 induction n with
 | zero => rfl
 | succ n ih => simp [List.replicate_succ, nval, ih]
theorem Nrm.tail {x : Nat} {xs : List Nat} (h : Nrm (x :: xs)) (hne : xs ≠ []) : Nrm xs := by
 cases xs with
 | nil => exact absurd rfl hne
 | cons y ys => simpa [Nrm, List.getLast?_cons_cons] using h
theorem nval_pos {B : Nat} (hB : 0 < B) {xs : List Nat} (h : Nrm xs) (hne : xs ≠ []) : 0 < nval B xs := by
 induction xs with
 | nil => exact absurd rfl hne
 | cons x xs ih =>
   by_cases hx : xs = []
   · subst hx
     simp only [Nrm, List.getLast?_singleton, ne_eq, Option.some.injEq] at h
     simp only [nval]; omega
   · have := ih (h.tail hx) hx
     have : 0 < B * nval B xs := Nat.mul_pos hB this
     simp only [nval]; omega
theorem Rep.pos_iff {B : Nat} (hB : 0 < B) {xs : List Nat} {m : Nat} (h : Rep B xs m) : xs = [] ↔ m = 0 := by
 constructor
 · rintro rfl; rw [← h.val]; rfl
 · intro hm
   by_cases hx : xs = []
   · exact hx
   · have := nval_pos hB h.nrm hx
     rw [h.val] at this; omega
def strip : List Nat → List Nat
 | [] => []
 | x :: xs => if strip xs = [] ∧ x = 0 then [] else x :: strip xs
theorem strip_val (B : Nat) (xs : List Nat) : nval B (strip xs) = nval B xs := by
 induction xs with
 | nil => rfl
 | cons x xs ih =>
   simp only [strip]
   split
   · rename_i h
     have : nval B xs = 0 := by rw [← ih, h.1]; rfl
     simp [nval, this, h.2]
   · simp [nval, ih]
theorem strip_nrm (xs : List Nat) : Nrm (strip xs) := by
 induction xs with
 | nil => simp [Nrm, strip]
 | cons x xs ih =>
   simp only [strip]
   split
   · simp [Nrm]
   · rename_i h
     by_cases hs : strip xs = []
     · rw [hs]
       simp only [Nrm, List.getLast?_singleton, ne_eq, Option.some.injEq]
       intro hx; exact h ⟨hs, hx⟩
     · obtain ⟨y, ys, e⟩ := List.exists_cons_of_ne_nil hs
       rw [e] at ih ⊢
       simpa [Nrm, List.getLast?_cons_cons] using ih
theorem strip_lt (B : Nat) (xs : List Nat) (h : ∀ x ∈ xs, x < B) : ∀ x ∈ strip xs, x < B := by
 induction xs with
 | nil => intro x hx; simp [strip] at hx
 | cons y ys ih =>
   intro x hx
   simp only [strip] at hx
   split at hx
   · simp at hx
   · rcases List.mem_cons.1 hx with rfl | hx
     · exact h _ (by simp)
     · exact ih (fun z hz => h z (by simp [hz])) x hx
theorem strip_rep (B : Nat) (xs : List Nat) (h : ∀ x ∈ xs, x < B) : Rep B (strip xs) (nval B xs) := ⟨strip_lt B xs h, strip_val B xs, strip_nrm xs⟩
theorem strip_length (xs : List Nat) : (strip xs).length ≤ xs.length := by
 induction xs with
 | nil => simp [strip]
 | cons x xs ih =>
   simp only [strip]
   split
   · simp
   · simp only [List.length_cons]; omega
theorem strip_take (xs : List Nat) : strip xs = xs.take (strip xs).length := by
 induction xs with
 | nil => rfl
 | cons x xs ih =>
   simp only [strip]
   split
   · simp
   · simp only [List.length_cons, List.take_succ_cons]; rw [← ih]
theorem strip_drop (xs : List Nat) : ∀ x ∈ xs.drop (strip xs).length, x = 0 := by
 induction xs with
 | nil => intro x hx; simp at hx
 | cons y ys ih =>
   simp only [strip]
   split
   · rename_i h
     intro x hx
     rw [h.1] at ih
     simp only [List.length_nil, List.drop_zero, List.mem_cons] at hx ih
     rcases hx with rfl | hx
     · exact h.2
     · exact ih x hx
   · simpa using ih
theorem strip_of (xs : List Nat) (k : Nat) (hk : k ≤ xs.length) (hz : ∀ i, k ≤ i → i < xs.length → xs.getD i 0 = 0) (hn : k = 0 ∨ xs.getD (k - 1) 0 ≠ 0) : strip xs = xs.take k := by
 induction xs generalizing k with
 | nil => simp at hk; subst hk; rfl
 | cons x xs ih =>
   cases k with
   | zero =>
     have h1 : strip xs = [] := by
       rw [ih 0 (Nat.zero_le _) (fun i _ hi => by simpa using hz (i + 1) (by omega) (by simp; omega)) (.inl rfl)]; simp
     have h2 : x = 0 := by simpa using hz 0 (by omega) (by simp)
     simp [strip, h1, h2]
   | succ k =>
     have hk' : k ≤ xs.length := by simpa using hk
     have hz' : ∀ i, k ≤ i → i < xs.length → xs.getD i 0 = 0 := fun i h1 h2 => by simpa using hz (i + 1) (by omega) (by simp; omega)
     by_cases h0 : k = 0
     · subst h0
       have h1 : strip xs = [] := by rw [ih 0 (Nat.zero_le _) hz' (.inl rfl)]; simp
       have h2 : x ≠ 0 := by simpa using hn
       simp [strip, h1, h2]
     · have h1 := ih k hk' hz' (.inr (by
         rcases hn with h | h
         · omega
         · have e : k + 1 - 1 = (k - 1) + 1 := by omega
           rw [e] at h; simpa using h))
       have h2 : strip xs ≠ [] := by
         rw [h1]; intro h3
         have := congrArg List.length h3
         simp only [List.length_take, List.length_nil] at this
         omega
       simp [strip, h1]
       intro h3
       rw [h1] at h2
       rcases h3 with h3 | h3
       · exact absurd h3 h0
       · subst h3; simp at h2
/-! ### two numbers in order -/
def dgs (B : Nat) : Nat → Nat → List Nat
 | 0, _ => []
 | k + 1, m => m % B :: dgs B k (m / B)
theorem dgs_length (B k m : Nat) : (dgs B k m).length = k := by
 induction k generalizing m with
 | zero => rfl
 | succ k ih => simp [dgs, ih]
theorem dgs_lt (B : Nat) (hB : 0 < B) (k m : Nat) : ∀ x ∈ dgs B k m, x < B := by
 induction k generalizing m with
 | zero => intro x hx; simp [dgs] at hx
 | succ k ih =>
   intro x hx
   simp only [dgs, List.mem_cons] at hx
   rcases hx with rfl | hx
   · exact Nat.mod_lt _ hB
   · exact ih _ _ hx
theorem dgs_val (B : Nat) (k m : Nat) : nval B (dgs B k m) = m % B ^ k := by
 induction k generalizing m with
 | zero => simp [dgs, nval, Nat.mod_one]
 | succ k ih =>
   simp only [dgs, nval, ih]
   rw [Nat.pow_succ, Nat.mul_comm (B ^ k) B, Nat.mod_mul]
theorem dgs_val_of (B : Nat) (k m : Nat) (h : m < B ^ k) : nval B (dgs B k m) = m := by rw [dgs_val, Nat.mod_eq_of_lt h]
theorem dgs_snoc (B k m : Nat) : dgs B (k + 1) m = dgs B k m ++ [m / B ^ k % B] := by
 induction k generalizing m with
 | zero => simp [dgs]
 | succ k ih =>
   rw [dgs, ih (m / B), dgs]
   simp only [List.cons_append, List.cons.injEq, true_and]
   rw [Nat.div_div_eq_div_mul, Nat.pow_succ, Nat.mul_comm B]
theorem nval_drop (B : Nat) (hB : 0 < B) (xs : List Nat) (h : ∀ x ∈ xs, x < B) (k : Nat) (hk : k ≤ xs.length) : nval B xs / B ^ k = nval B (xs.drop k) := by
 induction k generalizing xs with
 | zero => simp
 | succ k ih =>
   cases xs with
   | nil => simp at hk
   | cons x xs =>
     have hx := h x (by simp)
     rw [List.drop_succ_cons, ← ih xs (fun z hz => h z (by simp [hz])) (by simpa using hk), Nat.pow_succ, Nat.mul_comm, ← Nat.div_div_eq_div_mul]
     simp only [nval]
     rw [Nat.add_mul_div_left _ _ hB, Nat.div_eq_of_lt hx, Nat.zero_add]
theorem Rep.length_le {B : Nat} (hB : 0 < B) {xs : List Nat} {m k : Nat} (h : Rep B xs m) (hm : m < B ^ k) : xs.length ≤ k := by
 rcases Nat.lt_or_ge k xs.length with hlt | hge
 · exfalso
   have e := nval_drop B hB xs h.lt k (by omega)
   rw [h.val, Nat.div_eq_of_lt hm] at e
   have hne : xs.drop k ≠ [] := by
     intro h0
     have := congrArg List.length h0
     simp only [List.length_drop, List.length_nil] at this; omega
   have hn : Nrm (xs.drop k) := by
     have := h.nrm
     unfold Nrm at this ⊢
     rw [List.getLast?_drop, if_neg (by omega)]
     exact this
   have := nval_pos hB hn hne
   omega
 · exact hge
def bval (ms : List Nat) : Nat := nval 256 ms.reverse
def Bytes (ms : List Nat) (m : Nat) : Prop := Rep 256 ms.reverse m
theorem Bytes.lt {xs : List Nat} {m : Nat} (h : Bytes xs m) : ∀ x ∈ xs, x < 256 := fun x hx => Rep.lt h x (by simpa using hx)
theorem cut_bytes (ms : List Nat) (h : ∀ x ∈ ms, x < 256) (k : Nat) (hk : k ≤ ms.length) (hz : ∀ i, i < k → ms.getD i 0 = 0) (hn : k = ms.length ∨ ms.getD k 0 ≠ 0) : Bytes (ms.drop k) (bval ms) := by
 refine ⟨fun x hx => h x (List.mem_of_mem_drop (by simpa using hx)), ?_, ?_⟩
 · unfold bval
   have e : ms.reverse = (ms.drop k).reverse ++ (ms.take k).reverse := by rw [← List.reverse_append, List.take_append_drop]
   rw [e, nval_append]
   have z : ms.take k = List.replicate k 0 := by
     apply List.ext_getElem
     · simp; omega
     · intro i h1 h2
       simp only [List.getElem_take, List.getElem_replicate]
       have := hz i (by simpa using h2)
       rwa [List.getD_eq_getElem?_getD, List.getElem?_eq_getElem (by simp at h1; omega)] at this
   rw [z, List.reverse_replicate, nval_replicate]; simp
 · unfold Nrm
   rw [List.getLast?_reverse, List.head?_drop]
   rcases hn with h2 | h2
   · rw [h2]; simp
   · intro h3; rw [List.getD_eq_getElem?_getD, h3] at h2; simp at h2
theorem pow_words (n : Nat) : (18446744073709551616 : Nat) ^ n = 256 ^ (8 * n) := by rw [Nat.pow_mul]
theorem Bytes.length_le_of {ms : List Nat} {m : Nat} (n : Nat) (h : Bytes ms m) (hm : m < 256 ^ (8 * n)) : ms.length ≤ 8 * n := by
 have := Rep.length_le (by omega) h hm
 simpa using this
theorem lt_pow_of {m j k : Nat} (h : m < 256 ^ j) (hk : j ≤ k) : m < 256 ^ k := Nat.lt_of_lt_of_le h (Nat.pow_le_pow_right (by omega) hk)
def limW : Nat := 512
theorem limW_eq : limW = 512 := rfl
attribute [irreducible] limW
def lim : Nat := 256 ^ (8 * limW)
theorem Bytes.length_le {ms : List Nat} {m : Nat} (h : Bytes ms m) (hm : m < lim) : ms.length ≤ 4096 := by
 have := Bytes.length_le_of limW h hm
 rw [limW_eq] at this; omega
end Go.Proofs.YtoojgjhfmmohbaaGreat.Dig
namespace Go.Proofs.YtoojgjhfmmohbaaGreat
open Go.RowKit
set_option linter.unusedVariables false
set_option linter.unusedSimpArgs false
def Rd (w : World) (b o : Nat) (vs : List Value) : Prop := ∀ i, i < vs.length → w.cell? ⟨b, o + i, none⟩ = some (vs.getD i undef)
def Blk (w : World) (b : Nat) (e : TypeId) (L : List Value) : Prop := w.heap[b]? = some (.cells L.toArray e (0, 0))
def Sl (w : World) (B : Nat) (v : Value) (vs : List Value) : Prop :=
 ∃ a c, v = .slice a vs.length c ∧ vs.length ≤ c ∧ (vs ≠ [] → ∃ b o, a = some ⟨b, o, none⟩ ∧ b < B ∧ Rd w b o vs)
def Up (r : Option Nat) (w w' : World) : Prop := w.grownBy w' r
theorem lt_of_cell {w : World} {b o : Nat} {v : Value} (h : w.cell? ⟨b, o, none⟩ = some v) : b < w.heap.size := by
 rcases Nat.lt_or_ge b w.heap.size with hlt | hge
 · exact hlt
 · simp [World.cell?, Array.getElem?_eq_none hge] at h
section
variable {w w' : World} {b o B : Nat} {e : TypeId} {L vs : List Value} {v : Value}
theorem Blk.lt (h : Blk w b e L) : b < w.heap.size := by
 rcases Nat.lt_or_ge b w.heap.size with hlt | hge
 · exact hlt
 · unfold Blk at h; rw [Array.getElem?_eq_none hge] at h; cases h
theorem Blk.cell (h : Blk w b e L) (i : Nat) (hi : i < L.length) : w.cell? ⟨b, i, none⟩ = some (L.getD i undef) := by
 unfold Blk at h
 simp [World.cell?, h, List.getElem?_eq_getElem hi]
theorem Blk.free (h : Blk w b e L) (i : Nat) : w.frozen? ⟨b, i, none⟩ = false := by
 unfold Blk at h
 simp [World.frozen?, h]
theorem Blk.new (w : World) (e : TypeId) (L : List Value) : Blk (w.alloc (.cells L.toArray e)) w.heap.size e L := heap_alloc_new w _
theorem Blk.drewN (h : Blk w b e L) (n : Nat) : Blk (w.drewN n) b e L := h
theorem Blk.alloc (h : Blk w b e L) (x : Obj) : Blk (w.alloc x) b e L := (Below.heap_alloc w x b h.lt).trans h
theorem Blk.set (h : Blk w b e L) (i : Nat) (u : Value) : Blk (w.setCell ⟨b, i, none⟩ u) b e (L.set i u) := by
 unfold Blk at h ⊢
 simp [World.setCell, Array.getElem?_modify, h]
theorem Blk.far (h : Blk w b e L) {p : Addr} (hp : b ≠ p.block) (u : Value) : Blk (w.setCell p u) b e L := (Below.heap_setCell w p u b hp).trans h
theorem Blk.below (h : Blk w b e L) (hb : Below B w w') (hg : b < B) : Blk w' b e L := (hb.block b hg).trans h
theorem Blk.up {r : Option Nat} (h : Blk w b e L) (hb : Up r w w') (hg : some b ≠ r) : Blk w' b e L := (hb.block b h.lt hg).trans h
theorem Blk.rd (h : Blk w b e L) (hl : o + vs.length ≤ L.length) (hv : ∀ i, i < vs.length → L.getD (o + i) undef = vs.getD i undef) : Rd w b o vs := fun i hi => by
 rw [h.cell (o + i) (by omega), hv i hi]
theorem Blk.inj {e' : TypeId} {L' : List Value} (h : Blk w b e L) (h' : Blk w b e' L') : e = e' ∧ L = L' := by
 unfold Blk at h h'
 rw [h] at h'
 injection h' with h'
 injection h' with h1 h2
 exact ⟨h2, by simpa using congrArg Array.toList h1⟩
theorem Rd.keep (h : Rd w b o vs) (hk : ∀ i, i < vs.length → w'.cell? ⟨b, o + i, none⟩ = w.cell? ⟨b, o + i, none⟩) : Rd w' b o vs := fun i hi => (hk i hi).trans (h i hi)
theorem Rd.below (h : Rd w b o vs) (hb : Below B w w') (hg : b < B) : Rd w' b o vs := h.keep fun i _ => hb.cell (p := ⟨b, o + i, none⟩) hg
theorem Rd.up {r : Option Nat} (h : Rd w b o vs) (hb : Up r w w') (hlt : b < w.heap.size) (hg : some b ≠ r) : Rd w' b o vs :=
 h.keep fun i _ => World.cell?_of_block (a := ⟨b, o + i, none⟩) (hb.block b hlt hg)
theorem Rd.drop (h : Rd w b o vs) (k : Nat) : Rd w b (o + k) (vs.drop k) := fun i hi => by
 have := h (k + i) (by simp at hi; omega)
 rw [Nat.add_assoc, this]; simp [List.getD_eq_getElem?_getD]
theorem Rd.take (h : Rd w b o vs) (k : Nat) : Rd w b o (vs.take k) := fun i hi => by
 simp only [List.length_take] at hi
 rw [h i (by omega)]
 simp [List.getD_eq_getElem?_getD, show i < k by omega]
theorem Sl.nil (w : World) (B : Nat) : Sl w B (.slice none 0 0) [] := ⟨none, 0, rfl, Nat.le_refl _, fun h => absurd rfl h⟩
theorem Sl.empty (w : World) (B : Nat) (a : Option Addr) (c : Nat) : Sl w B (.slice a 0 c) [] := ⟨a, c, rfl, Nat.zero_le _, fun h => absurd rfl h⟩
theorem Sl.mk {c : Nat} (h : Rd w b o vs) (hc : vs.length ≤ c) (hb : b < B) : Sl w B (.slice (some ⟨b, o, none⟩) vs.length c) vs := ⟨_, c, rfl, hc, fun _ => ⟨b, o, rfl, hb, h⟩⟩
theorem Sl.keep (h : Sl w B v vs) (hk : ∀ b o, b < B → w'.cell? ⟨b, o, none⟩ = w.cell? ⟨b, o, none⟩) : Sl w' B v vs := by
 obtain ⟨a, c, hv, hc, hr⟩ := h
 refine ⟨a, c, hv, hc, fun hne => ?_⟩
 obtain ⟨b, o, ha, hb, hrd⟩ := hr hne
 exact ⟨b, o, ha, hb, hrd.keep fun i _ => hk b _ hb⟩
theorem Sl.below (h : Sl w B v vs) (hb : Below B w w') : Sl w' B v vs := h.keep fun b o hlt => hb.cell (p := ⟨b, o, none⟩) hlt
theorem Sl.drewN (h : Sl w B v vs) (n : Nat) : Sl (w.drewN n) B v vs := h
theorem Sl.more {B' : Nat} (h : Sl w B v vs) (hB : B ≤ B') : Sl w B' v vs := by
 obtain ⟨a, c, hv, hc, hr⟩ := h
 refine ⟨a, c, hv, hc, fun hne => ?_⟩
 obtain ⟨b, o, ha, hb, hrd⟩ := hr hne
 exact ⟨b, o, ha, by omega, hrd⟩
theorem Sl.here (h : Sl w B v vs) : Sl w w.heap.size v vs := by
 obtain ⟨a, c, hv, hc, hr⟩ := h
 refine ⟨a, c, hv, hc, fun hne => ?_⟩
 obtain ⟨b, o, ha, hb, hrd⟩ := hr hne
 have := hrd 0 (by cases vs with | nil => exact absurd rfl hne | cons => simp)
 exact ⟨b, o, ha, lt_of_cell this, hrd⟩
theorem Up.refl (r : Option Nat) (w : World) : Up r w w := World.grownBy.refl w r
theorem Up.drewN {r : Option Nat} (h : Up r w w') (n : Nat) : Up r w (w'.drewN n) := ⟨h.os, h.tape, h.output, h.size, h.block⟩
theorem Up.alloc {r : Option Nat} (h : Up r w w') (x : Obj) : Up r w (w'.alloc x) :=
 ⟨h.os, h.tape, h.output, by have := h.size; simp; omega, fun k hk hr => (Below.heap_alloc w' x k (by have := h.size; omega)).trans (h.block k hk hr)⟩
theorem Up.set {b : Nat} (h : Up (some b) w w') (i : Nat) (u : Value) : Up (some b) w (w'.setCell ⟨b, i, none⟩ u) :=
 ⟨h.os, h.tape, h.output, by have := h.size; simp [World.setCell]; omega, fun k hk hr => (Below.heap_setCell w' _ u k (by simpa using hr)).trans (h.block k hk hr)⟩
theorem Up.trans {r : Option Nat} {w'' : World} (h : Up r w w') (k : Up r w' w'') : Up r w w'' :=
 ⟨k.os.trans h.os, k.tape.trans h.tape, k.output.trans h.output, Nat.le_trans h.size k.size, fun i hi hr => (k.block i (Nat.lt_of_lt_of_le hi h.size) hr).trans (h.block i hi hr)⟩
theorem Up.below {r : Option Nat} (h : Up r w w') (hB : B ≤ w.heap.size) (hr : ∀ k, r = some k → B ≤ k) : Below B w w' := (Below.refl B w).grown h hB hr
theorem Up.of_below {r : Option Nat} (h : Below w.heap.size w w') : Up r w w' := ⟨h.os, h.tape, h.output, h.size, fun k hk _ => h.block k hk⟩
theorem Sl.up {b : Nat} (h : Sl w B v vs) (hb : Up (some b) w w') (hB : B ≤ w.heap.size) (hbB : B ≤ b) : Sl w' B v vs :=
 h.keep fun k o hk => World.cell?_of_block (a := ⟨k, o, none⟩) (hb.block k (by omega) (by simp; omega))
end
def wv (x : Nat) : Value := .int .u64 (x : Int)
def bv (x : Nat) : Value := .int .u8 (x : Int)
theorem getD_map_wv (xs : List Nat) (i : Nat) (h : i < xs.length) : (xs.map wv).getD i undef = .int .u64 ((xs.getD i 0 : Nat) : Int) := by
 simp [List.getD_eq_getElem?_getD, List.getElem?_eq_getElem h, wv]
theorem getD_map_bv (xs : List Nat) (i : Nat) (h : i < xs.length) : (xs.map bv).getD i undef = .int .u8 ((xs.getD i 0 : Nat) : Int) := by
 simp [List.getD_eq_getElem?_getD, List.getElem?_eq_getElem h, bv]
theorem Sl.far {w : World} {B b : Nat} {v : Value} {vs L : List Value} {e : TypeId} (h : Sl w B v vs) (hk : Blk w b e L) (hd : ∀ u ∈ L, u ∉ vs) (i : Nat) (y : Value) : Sl (w.setCell ⟨b, i, none⟩ y) B v vs := by
 obtain ⟨a, c, hv, hc, hr⟩ := h
 refine ⟨a, c, hv, hc, fun hne => ?_⟩
 obtain ⟨b', o, ha, hb, hrd⟩ := hr hne
 refine ⟨b', o, ha, hb, hrd.keep fun j _ => ?_⟩
 have hpos : 0 < vs.length := List.length_pos_iff.2 hne
 have hne2 : b' ≠ b := by
   rintro rfl
   have h0 := hrd 0 hpos
   rw [Nat.add_zero] at h0
   rcases Nat.lt_or_ge o L.length with hlt | hge
   · rw [hk.cell o hlt] at h0
     have e1 : L.getD o undef = vs.getD 0 undef := Option.some.inj h0
     rw [List.getD_eq_getElem?_getD, List.getD_eq_getElem?_getD, List.getElem?_eq_getElem hlt, List.getElem?_eq_getElem hpos] at e1
     exact hd _ (List.getElem_mem hlt) (by simp only [Option.getD_some] at e1; rw [e1]; exact List.getElem_mem hpos)
   · unfold Blk at hk
     simp [World.cell?, hk, List.getElem?_eq_none hge] at h0
 exact World.cell?_of_block (a := ⟨b', o + j, none⟩) (Below.heap_setCell w _ y b' hne2)
theorem not_bv {L : List Value} (h : ∀ u ∈ L, ∀ x, u ≠ bv x) (ms : List Nat) : ∀ u ∈ L, u ∉ ms.map bv := by
 intro u hu hm
 obtain ⟨x, _, hx⟩ := List.mem_map.1 hm
 exact h u hu x hx.symm
theorem not_wv {L : List Value} (h : ∀ u ∈ L, ∀ x, u ≠ wv x) (ms : List Nat) : ∀ u ∈ L, u ∉ ms.map wv := by
 intro u hu hm
 obtain ⟨x, _, hx⟩ := List.mem_map.1 hm
 exact h u hu x hx.symm
end Go.Proofs.YtoojgjhfmmohbaaGreat
namespace Go.Proofs.YtoojgjhfmmohbaaGreat.Dig
theorem nval_take_succ (B : Nat) (xs : List Nat) (k : Nat) (hk : k < xs.length) : nval B (xs.take (k + 1)) = nval B (xs.take k) + B ^ k * xs.getD k 0 := by
 rw [List.take_succ_eq_append_getElem hk, nval_append]
 simp [nval, List.getD_eq_getElem?_getD, List.getElem?_eq_getElem hk, Nat.min_eq_left (Nat.le_of_lt hk)]
theorem nval_take (B : Nat) (xs : List Nat) (h : ∀ x ∈ xs, x < B) (k : Nat) (hk : k ≤ xs.length) : nval B (xs.take k) = nval B xs % B ^ k := by
 have e : nval B xs = nval B (xs.take k) + B ^ k * nval B (xs.drop k) := by
   conv => lhs; rw [← List.take_append_drop k xs]
   rw [nval_append, List.length_take, Nat.min_eq_left hk]
 have hlt : nval B (xs.take k) < B ^ k := by
   have := nval_lt B (xs.take k) (fun x hx => h x (List.mem_of_mem_take hx))
   rwa [List.length_take, Nat.min_eq_left hk] at this
 rw [e, Nat.add_mul_mod_self_left, Nat.mod_eq_of_lt hlt]
theorem word_of_bytes (ms : List Nat) (h : ∀ x ∈ ms, x < 256) (k i : Nat) (hi : i + 8 * k = ms.length) (h8 : 8 ≤ i) : bval ((ms.drop (i - 8)).take 8) = bval ms / 18446744073709551616 ^ k % 18446744073709551616 := by
 have hr : ∀ x ∈ ms.reverse, x < 256 := fun x hx => h x (by simpa using hx)
 have e1 : ((ms.drop (i - 8)).take 8).reverse = (ms.reverse.drop (8 * k)).take 8 := by
   rw [List.reverse_take, List.reverse_drop, List.length_drop, List.drop_take]
   congr 1
   · omega
   · congr 1; omega
 unfold bval
 rw [e1, nval_take 256 _ (fun x hx => hr x (List.mem_of_mem_drop hx)) 8 (by simp; omega), ← nval_drop 256 (by omega) ms.reverse hr (8 * k) (by simp; omega), pow_words]
theorem top_of_bytes (ms : List Nat) (h : ∀ x ∈ ms, x < 256) (k i : Nat) (hi : i + 8 * k = ms.length) : bval (ms.take i) = bval ms / 18446744073709551616 ^ k := by
 have hr : ∀ x ∈ ms.reverse, x < 256 := fun x hx => h x (by simpa using hx)
 have e1 : (ms.take i).reverse = ms.reverse.drop (8 * k) := by
   rw [List.reverse_take]; congr 1; omega
 unfold bval
 rw [e1, pow_words, nval_drop 256 (by omega) ms.reverse hr (8 * k) (by simp; omega)]
theorem bval_lt (ms : List Nat) (h : ∀ x ∈ ms, x < 256) : bval ms < 256 ^ ms.length := by
 have := nval_lt 256 ms.reverse (fun x hx => h x (by simpa using hx))
 rwa [List.length_reverse] at this
theorem byte_up (ms : List Nat) (h : ∀ x ∈ ms, x < 256) (i j : Nat) (hi : i ≤ ms.length) (hj : j < i) : bval (ms.take i) % 256 ^ (j + 1) = bval (ms.take i) % 256 ^ j + 256 ^ j * ms.getD (i - j - 1) 0 := by
 have hr : ∀ x ∈ (ms.take i).reverse, x < 256 := fun x hx => h x (List.mem_of_mem_take (by simpa using hx))
 have hl : (ms.take i).reverse.length = i := by simp; omega
 unfold bval
 rw [← nval_take 256 _ hr (j + 1) (by omega), ← nval_take 256 _ hr j (by omega), nval_take_succ 256 _ j (by omega)]
 congr 2
 simp only [List.getD_eq_getElem?_getD]
 rw [List.getElem?_reverse (by simp; omega), List.getElem?_take, if_pos (by simp; omega)]
 congr 2
 simp; omega
end Go.Proofs.YtoojgjhfmmohbaaGreat.Dig
namespace Go.Proofs.YtoojgjhfmmohbaaGreat
open Go.RowKit Dig
set_option linter.unusedVariables false
set_option linter.unusedSimpArgs false
def Nt (w : World) (B : Nat) (v : Value) (m : Nat) : Prop := ∃ xs, Rep 18446744073709551616 xs m ∧ Sl w B v (xs.map wv)
def By (w : World) (B : Nat) (v : Value) (m : Nat) : Prop := ∃ ms, Bytes ms m ∧ Sl w B v (ms.map bv)
def Sp (w : World) (B : Nat) (v : Value) (i : Int) : Prop := ∃ mag, v = .agg #[.bool (decide (i < 0)), mag] ∧ By w B mag i.natAbs
def Va (w : World) (B : Nat) (v : Value) (i : Int) : Prop := ∃ mag, v = .agg #[.int .i64 2, .bool (decide (i < 0)), mag, .int .u64 0, .string ByteArray.empty, .slice none 0 0] ∧ By w B mag i.natAbs
section
variable {w w' : World} {B : Nat} {v : Value} {m : Nat} {i : Int}
theorem Nt.keep (h : Nt w B v m) (hk : ∀ b o, b < B → w'.cell? ⟨b, o, none⟩ = w.cell? ⟨b, o, none⟩) : Nt w' B v m := by
 obtain ⟨xs, h1, h2⟩ := h; exact ⟨xs, h1, h2.keep hk⟩
theorem Nt.below (h : Nt w B v m) (hb : Below B w w') : Nt w' B v m := h.keep fun b o hlt => hb.cell (p := ⟨b, o, none⟩) hlt
theorem Nt.more {B' : Nat} (h : Nt w B v m) (hB : B ≤ B') : Nt w B' v m := by obtain ⟨xs, h1, h2⟩ := h; exact ⟨xs, h1, h2.more hB⟩
theorem Nt.here (h : Nt w B v m) : Nt w w.heap.size v m := by obtain ⟨xs, h1, h2⟩ := h; exact ⟨xs, h1, h2.here⟩
theorem Nt.drewN (h : Nt w B v m) (n : Nat) : Nt (w.drewN n) B v m := h
theorem By.keep (h : By w B v m) (hk : ∀ b o, b < B → w'.cell? ⟨b, o, none⟩ = w.cell? ⟨b, o, none⟩) : By w' B v m := by
 obtain ⟨xs, h1, h2⟩ := h; exact ⟨xs, h1, h2.keep hk⟩
theorem By.below (h : By w B v m) (hb : Below B w w') : By w' B v m := h.keep fun b o hlt => hb.cell (p := ⟨b, o, none⟩) hlt
theorem By.more {B' : Nat} (h : By w B v m) (hB : B ≤ B') : By w B' v m := by obtain ⟨xs, h1, h2⟩ := h; exact ⟨xs, h1, h2.more hB⟩
theorem By.here (h : By w B v m) : By w w.heap.size v m := by obtain ⟨xs, h1, h2⟩ := h; exact ⟨xs, h1, h2.here⟩
theorem By.drewN (h : By w B v m) (n : Nat) : By (w.drewN n) B v m := h
theorem Sp.below (h : Sp w B v i) (hb : Below B w w') : Sp w' B v i := by obtain ⟨mag, h1, h2⟩ := h; exact ⟨mag, h1, h2.below hb⟩
theorem Sp.more {B' : Nat} (h : Sp w B v i) (hB : B ≤ B') : Sp w B' v i := by obtain ⟨mag, h1, h2⟩ := h; exact ⟨mag, h1, h2.more hB⟩
theorem Sp.here (h : Sp w B v i) : Sp w w.heap.size v i := by obtain ⟨mag, h1, h2⟩ := h; exact ⟨mag, h1, h2.here⟩
theorem Sp.form (h : Sp w B v i) : ∃ (neg : Bool) (a : Option Addr) (k c : Nat), v = .agg #[.bool neg, .slice a k c] := by
 obtain ⟨mag, rfl, ms, _, a, c, rfl, _⟩ := h; exact ⟨_, a, _, c, rfl⟩
theorem Sp.drewN (h : Sp w B v i) (n : Nat) : Sp (w.drewN n) B v i := h
theorem Va.below (h : Va w B v i) (hb : Below B w w') : Va w' B v i := by obtain ⟨mag, h1, h2⟩ := h; exact ⟨mag, h1, h2.below hb⟩
theorem Va.more {B' : Nat} (h : Va w B v i) (hB : B ≤ B') : Va w B' v i := by obtain ⟨mag, h1, h2⟩ := h; exact ⟨mag, h1, h2.more hB⟩
theorem Va.here (h : Va w B v i) : Va w w.heap.size v i := by obtain ⟨mag, h1, h2⟩ := h; exact ⟨mag, h1, h2.here⟩
theorem Va.drewN (h : Va w B v i) (n : Nat) : Va (w.drewN n) B v i := h
end
def Bg (w : World) (B : Nat) (p : Option Addr) (i : Int) : Prop :=
 ∃ b abs, p = some ⟨b, 0, none⟩ ∧ b < B ∧ Blk w b 200 [.bool (decide (i < 0)), abs] ∧ Nt w B abs i.natAbs
def In (w : World) (B : Nat) (v : Value) (i : Int) : Prop :=
 ∃ s p, v = .agg #[.int .i64 s, .pointer p] ∧ ((p = none ∧ s = i ∧ -2147483648 ≤ i ∧ i ≤ 2147483647) ∨ (s = 0 ∧ ¬ (-2147483648 ≤ i ∧ i ≤ 2147483647) ∧ Bg w B p i))
section
variable {w w' : World} {B : Nat} {v : Value} {p : Option Addr} {i : Int}
theorem Bg.below (h : Bg w B p i) (hb : Below B w w') : Bg w' B p i := by
 obtain ⟨b, abs, h1, h2, h3, h4⟩ := h; exact ⟨b, abs, h1, h2, h3.below hb h2, h4.below hb⟩
theorem Bg.more {B' : Nat} (h : Bg w B p i) (hB : B ≤ B') : Bg w B' p i := by
 obtain ⟨b, abs, h1, h2, h3, h4⟩ := h; exact ⟨b, abs, h1, by omega, h3, h4.more hB⟩
theorem Bg.here (h : Bg w B p i) : Bg w w.heap.size p i := by
 obtain ⟨b, abs, h1, h2, h3, h4⟩ := h; exact ⟨b, abs, h1, h3.lt, h3, h4.here⟩
theorem Bg.drewN (h : Bg w B p i) (n : Nat) : Bg (w.drewN n) B p i := h
theorem In.below (h : In w B v i) (hb : Below B w w') : In w' B v i := by
 obtain ⟨s, p, h1, h2⟩ := h
 refine ⟨s, p, h1, ?_⟩
 rcases h2 with h2 | ⟨h2, h3, h4⟩
 · exact .inl h2
 · exact .inr ⟨h2, h3, h4.below hb⟩
theorem In.more {B' : Nat} (h : In w B v i) (hB : B ≤ B') : In w B' v i := by
 obtain ⟨s, p, h1, h2⟩ := h
 refine ⟨s, p, h1, ?_⟩
 rcases h2 with h2 | ⟨h2, h3, h4⟩
 · exact .inl h2
 · exact .inr ⟨h2, h3, h4.more hB⟩
theorem In.here (h : In w B v i) : In w w.heap.size v i := by
 obtain ⟨s, p, h1, h2⟩ := h
 refine ⟨s, p, h1, ?_⟩
 rcases h2 with h2 | ⟨h2, h3, h4⟩
 · exact .inl h2
 · exact .inr ⟨h2, h3, h4.here⟩
theorem In.drewN (h : In w B v i) (n : Nat) : In (w.drewN n) B v i := h
end
end Go.Proofs.YtoojgjhfmmohbaaGreat
namespace Go.Proofs.YtoojgjhfmmohbaaGreat
open Go.RowKit Dig
set_option linter.unusedVariables false
set_option linter.unusedSimpArgs false
theorem add_zero_off (b o i : Nat) : (⟨b, o, none⟩ : Addr).add i = ⟨b, o + i, none⟩ := by
 unfold Addr.add
 by_cases h : i = 0
 · subst h; simp
 · simp [h]
theorem Sl.of_own {w : World} {base e : Nat} {v : Value} {xs : List Value} (h : w.ownsRow base e 1 v xs.length xs) : Sl w w.heap.size v xs := by
 rcases h.2 with ⟨rfl, h0⟩ | ⟨g, cap, cur, rfl, hb, hh, hn, hc, hs, ht⟩
 · have : xs = [] := List.eq_nil_of_length_eq_zero h0
   subst this; exact Sl.nil _ _
 · refine ⟨_, cap, rfl, hn, fun hne => ⟨g, 0, rfl, ?_, fun i hi => ?_⟩⟩
   · have hB : Blk w g e cur.toList := by unfold Blk; rw [hh]
     exact hB.lt
   · have hB : Blk w g e cur.toList := by unfold Blk; rw [hh]
     have hlen : i < cur.toList.length := by rw [Array.length_toList, hs]; omega
     rw [Nat.zero_add, hB.cell i hlen]
     rw [Nat.mul_one] at ht
     have e1 : xs.getD i undef = (List.take xs.length cur.toList).getD i undef := by rw [ht]
     rw [e1, List.getD_eq_getElem?_getD, List.getD_eq_getElem?_getD, List.getElem?_take, if_pos hi]
section
variable {P : Program} (w : World)
theorem run_append_nothing (base : Nat) (t ty e : TypeId) (i : TypeInfo) (ht : P.underlying t = some (.slice e)) (hi : P.info? e = some i)
   (v : Value) (n : Nat) (xs : List Value) (hown : w.ownsRow base e 1 v n xs) (c : Nat) : (Builtin.append_ #[t, t] ty #[v, .slice none 0 c]).run P w = .ok v w := by
 rcases hown.2 with ⟨rfl, rfl⟩ | ⟨g, cap, cur, rfl, _, _, hnc, _⟩
 · simp [Builtin.append_, run_underlying ht, sizeOf, typeInfo, hi, Builtin.lenOf, Builtin.firstCells]
 · simp [Builtin.append_, run_underlying ht, sizeOf, typeInfo, hi, Builtin.lenOf, Builtin.firstCells, hnc, storeCells]
end
end Go.Proofs.YtoojgjhfmmohbaaGreat
namespace Go.Proofs.YtoojgjhfmmohbaaGreat
open Go.RowKit
set_option linter.unusedVariables false
set_option linter.unusedSimpArgs false
theorem Li {p : Prop} (h : p) : RowKit.Hid p := h
section
variable {α : Type} 
theorem sA (l : List α) (i : Nat) (a : α) : l.toArray.setIfInBounds i a = (l.set i a).toArray := List.setIfInBounds_toArray ..
theorem s0 (x : α) (xs : List α) (a : α) : (x :: xs).set 0 a = a :: xs := List.set_cons_zero
theorem s1 (x : α) (xs : List α) (n : Nat) (a : α) : (x :: xs).set (n + 1) a = x :: xs.set n a := List.set_cons_succ
end
theorem cell_under {W : World} {o : Obj} {a : Addr} {x : Option Value} (h : (W.alloc o).cell? a = x) (ha : a.block < W.heap.size) : W.cell? a = x := by
 rw [World.cell?_of_block (a := a) (Below.heap_alloc _ _ _ ha)] at h
 exact h
section
variable {P : Program} {ops : Array Oper} {Q : Exit → Act → World → Prop} {md : Region.Mode} {S : World → Prop}
theorem tkA {fuel : Nat} {listed : Array Bool} {a : Act} {w : World} {oi : Oper} {v : Value} {l' : Array Bool} {a' : Act} (i : Nat)
   (h : wpAnyH P md ops Q S fuel l' a' w)
   (hi : ops[i]? = some oi := by simp only [List.getElem?_toArray, List.getElem?_cons_zero, List.getElem?_cons_succ]; rfl)
   (hs : Region.noSelect ops = true := by kernel_rfl) (hf : Region.free md ops listed i = true := by kernel_rfl) (hr : (Region.ready md ops listed).contains i = true := by kernel_rfl)
   (hQ : ∀ c a w, Q (.panic c) (a.put oi.dst v) w → Q (.panic c) a w := by exact fun _ _ _ h => h)
   (hw : Region.wanted oi (yielded ops a.tmps) = true := by rfl)
   (hS : S w := by assumption)
   (hy : ∀ w, S w → (execOp a.eval oi).run P w = .ok (.value v) w := by intro wS hSw; (try dsimp only at hSw); go_simp; (try with_reducible rfl))
   (ha : a.put oi.dst v = a' := by (try simp only [Act.put, sA, s0, s1]); rfl) (hl : listed.setIfInBounds i true = l' := by (try simp only [sA, s0, s1]); rfl) : wpAnyH P md ops Q S (fuel + 1) listed a w := by
 subst ha; subst hl
 exact wpAnyH_take hi hs hf hr hQ (Or.inl ⟨hw, hy⟩) hS h
theorem tkU {fuel : Nat} {listed : Array Bool} {a : Act} {w : World} {oi : Oper} {l' : Array Bool} {a' : Act} (i : Nat)
   (h : wpAnyH P md ops Q S fuel l' a' w)
   (hi : ops[i]? = some oi := by simp only [List.getElem?_toArray, List.getElem?_cons_zero, List.getElem?_cons_succ]; rfl)
   (hs : Region.noSelect ops = true := by kernel_rfl) (hf : Region.free md ops listed i = true := by kernel_rfl) (hr : (Region.ready md ops listed).contains i = true := by kernel_rfl)
   (hQ : ∀ c a w, Q (.panic c) (a.put oi.dst undef) w → Q (.panic c) a w := by exact fun _ _ _ h => h)
   (hw : Region.wanted oi (yielded ops a.tmps) = false := by rfl)
   (hS : S w := by assumption)
   (ha : a.put oi.dst undef = a' := by (try simp only [Act.put, sA, s0, s1]); rfl) (hl : listed.setIfInBounds i true = l' := by (try simp only [sA, s0, s1]); rfl) : wpAnyH P md ops Q S (fuel + 1) listed a w := by
 subst ha; subst hl
 exact wpAnyH_take hi hs hf hr hQ (Or.inr ⟨hw, rfl⟩) hS h
end
end Go.Proofs.YtoojgjhfmmohbaaGreat
