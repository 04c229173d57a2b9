/- Plain arithmetic of digits: a list of digits in a base, the lowest first, and the number that it stands for; bytes, the highest first. No program in sight. How numbers lie in memory: cells from a place on, blocks that are known whole, slices that read as lists; what keeps them. No function of the program. Plain arithmetic of rows of digits: one round of the loops that add, subtract and multiply them. No program in sight. What a number is in memory: a nat (words), a *big.Int, a starlark.Int, a spec.Int, an impl.Val of the kind Int, each by the number that it stands for. No function of the program; types by their numbers. An append onto a row of the call's own, of a source that may be nil or empty; cuts of slices. No function of the program. -/
import Derived.WalkKit
import Derived.ProofKit
import Derived.Handy
import Derived.Below
import Derived.WalkSmall
import Derived.Lib.Hide
import Derived.Deep.QuietTactic
import Derived.BigQuiet
import Derived.Deep.Draws
import Derived.Laws.Rows
import Derived.OwnWalk
import Derived.Laws.AppendOwnNone
import Derived.Laws.OwnMore
import Derived.Laws.CopyOwn
namespace Go.Proofs.YtpcnmgldmnncoaaGreatDoor.Dig

/-- the number that digits stand for, the lowest first -/
def nval (B : Nat) : List Nat → Nat
  | [] => 0
  | x :: xs => x + B * nval B xs

/-- no leading 0 -/
def Nrm (xs : List Nat) : Prop := xs.getLast? ≠ some 0

/-- canonical digits of a number -/
structure Rep (B : Nat) (xs : List Nat) (m : Nat) : Prop where
  lt : ∀ x ∈ xs, x < B
  val : nval B xs = m
  nrm : Nrm xs

theorem nval_append (B : Nat) (xs ys : List Nat) : nval B (xs ++ ys) = nval B xs + B ^ xs.length * nval B ys := by
  induction xs with
  | nil => simp [nval]
  | cons x xs ih =>
    simp only [List.cons_append, nval, ih, List.length_cons, Nat.pow_succ]
    rw [Nat.mul_add, ← Nat.mul_assoc, Nat.mul_comm B (B ^ xs.length), Nat.add_assoc]

theorem nval_lt (B : Nat) (xs : List Nat) (h : ∀ x ∈ xs, x < B) : nval B xs < B ^ xs.length := by
  induction xs with
  | nil => simp [nval]
  | cons x xs ih =>
    have h1 := h x (by simp)
    have h2 := ih (fun y hy => h y (by simp [hy]))
    simp only [nval, List.length_cons, Nat.pow_succ]
    have : B * (nval B xs + 1) ≤ B ^ xs.length * B := by rw [Nat.mul_comm]; exact Nat.mul_le_mul_right _ h2
    rw [Nat.mul_add] at this
    omega

theorem nval_replicate (B n : Nat) : nval B (List.replicate n 0) = 0 := by
  induction n with
  | zero => rfl
  | succ n ih => simp [List.replicate_succ, nval, ih]

theorem Nrm.tail {x : Nat} {xs : List Nat} (h : Nrm (x :: xs)) (hne : xs ≠ []) : Nrm xs := by
  cases xs with
  | nil => exact absurd rfl hne
  | cons y ys => simpa [Nrm, List.getLast?_cons_cons] using h

theorem nval_pos {B : Nat} (hB : 0 < B) {xs : List Nat} (h : Nrm xs) (hne : xs ≠ []) : 0 < nval B xs := by
  induction xs with
  | nil => exact absurd rfl hne
  | cons x xs ih =>
    by_cases hx : xs = []
    · subst hx
      simp only [Nrm, List.getLast?_singleton, ne_eq, Option.some.injEq] at h
      simp only [nval]; omega
    · have := ih (h.tail hx) hx
      have : 0 < B * nval B xs := Nat.mul_pos hB this
      simp only [nval]; omega

theorem Rep.pos_iff {B : Nat} (hB : 0 < B) {xs : List Nat} {m : Nat} (h : Rep B xs m) : xs = [] ↔ m = 0 := by
  constructor
  · rintro rfl; rw [← h.val]; rfl
  · intro hm
    by_cases hx : xs = []
    · exact hx
    · have := nval_pos hB h.nrm hx
      rw [h.val] at this; omega

/-- the digits of a number are known -/
theorem Rep.unique {B : Nat} (hB : 0 < B) {xs ys : List Nat} {m : Nat} (h : Rep B xs m) (k : Rep B ys m) : xs = ys := by
  induction xs generalizing ys m with
  | nil => exact ((k.pos_iff hB).2 ((h.pos_iff hB).1 rfl)).symm
  | cons x xs ih =>
    cases ys with
    | nil => exact (h.pos_iff hB).2 ((k.pos_iff hB).1 rfl)
    | cons y ys =>
      have e1 := h.val; have e2 := k.val
      simp only [nval] at e1 e2
      have hx := h.lt x (by simp); have hy := k.lt y (by simp)
      have a : x = y := by
        have := congrArg (· % B) (e1.trans e2.symm)
        simpa [Nat.add_mul_mod_self_left, Nat.mod_eq_of_lt hx, Nat.mod_eq_of_lt hy] using this
      subst a
      have b : nval B xs = nval B ys := Nat.eq_of_mul_eq_mul_left hB (by omega)
      have hN : ∀ (zs : List Nat), Nrm (x :: zs) → Nrm zs := fun zs hz => by
        by_cases hzs : zs = []
        · subst hzs; simp [Nrm]
        · exact hz.tail hzs
      rw [ih (ys := ys) (m := nval B xs) ⟨fun z hz => h.lt z (by simp [hz]), rfl, hN _ h.nrm⟩ ⟨fun z hz => k.lt z (by simp [hz]), b.symm, hN _ k.nrm⟩]

/-- striking leading zeros -/
def strip : List Nat → List Nat
  | [] => []
  | x :: xs => if strip xs = [] ∧ x = 0 then [] else x :: strip xs

theorem strip_val (B : Nat) (xs : List Nat) : nval B (strip xs) = nval B xs := by
  induction xs with
  | nil => rfl
  | cons x xs ih =>
    simp only [strip]
    split
    · rename_i h
      have : nval B xs = 0 := by rw [← ih, h.1]; rfl
      simp [nval, this, h.2]
    · simp [nval, ih]
theorem strip_nrm (xs : List Nat) : Nrm (strip xs) := by
  induction xs with
  | nil => simp [Nrm, strip]
  | cons x xs ih =>
    simp only [strip]
    split
    · simp [Nrm]
    · rename_i h
      by_cases hs : strip xs = []
      · rw [hs]
        simp only [Nrm, List.getLast?_singleton, ne_eq, Option.some.injEq]
        intro hx; exact h ⟨hs, hx⟩
      · obtain ⟨y, ys, e⟩ := List.exists_cons_of_ne_nil hs
        rw [e] at ih ⊢
        simpa [Nrm, List.getLast?_cons_cons] using ih
theorem strip_lt (B : Nat) (xs : List Nat) (h : ∀ x ∈ xs, x < B) : ∀ x ∈ strip xs, x < B := by
  induction xs with
  | nil => intro x hx; simp [strip] at hx
  | cons y ys ih =>
    intro x hx
    simp only [strip] at hx
    split at hx
    · simp at hx
    · rcases List.mem_cons.1 hx with rfl | hx
      · exact h _ (by simp)
      · exact ih (fun z hz => h z (by simp [hz])) x hx
theorem strip_rep (B : Nat) (xs : List Nat) (h : ∀ x ∈ xs, x < B) : Rep B (strip xs) (nval B xs) := ⟨strip_lt B xs h, strip_val B xs, strip_nrm xs⟩
theorem strip_length (xs : List Nat) : (strip xs).length ≤ xs.length := by
  induction xs with
  | nil => simp [strip]
  | cons x xs ih =>
    simp only [strip]
    split
    · simp
    · simp only [List.length_cons]; omega
/-- what strip leaves is a beginning -/
theorem strip_take (xs : List Nat) : strip xs = xs.take (strip xs).length := by
  induction xs with
  | nil => rfl
  | cons x xs ih =>
    simp only [strip]
    split
    · simp
    · simp only [List.length_cons, List.take_succ_cons]; rw [← ih]
/-- the rest are zeros -/
theorem strip_drop (xs : List Nat) : ∀ x ∈ xs.drop (strip xs).length, x = 0 := by
  induction xs with
  | nil => intro x hx; simp at hx
  | cons y ys ih =>
    simp only [strip]
    split
    · rename_i h
      intro x hx
      rw [h.1] at ih
      simp only [List.length_nil, List.drop_zero, List.mem_cons] at hx ih
      rcases hx with rfl | hx
      · exact h.2
      · exact ih x hx
    · simpa using ih
/-- a beginning whose last digit is not 0, behind which all are 0: that is what strip leaves -/
theorem strip_of (xs : List Nat) (k : Nat) (hk : k ≤ xs.length) (hz : ∀ i, k ≤ i → i < xs.length → xs.getD i 0 = 0) (hn : k = 0 ∨ xs.getD (k - 1) 0 ≠ 0) : strip xs = xs.take k := by
  induction xs generalizing k with
  | nil => simp at hk; subst hk; rfl
  | cons x xs ih =>
    cases k with
    | zero =>
      have h1 : strip xs = [] := by
        rw [ih 0 (Nat.zero_le _) (fun i _ hi => by simpa using hz (i + 1) (by omega) (by simp; omega)) (.inl rfl)]; simp
      have h2 : x = 0 := by simpa using hz 0 (by omega) (by simp)
      simp [strip, h1, h2]
    | succ k =>
      have hk' : k ≤ xs.length := by simpa using hk
      have hz' : ∀ i, k ≤ i → i < xs.length → xs.getD i 0 = 0 := fun i h1 h2 => by simpa using hz (i + 1) (by omega) (by simp; omega)
      by_cases h0 : k = 0
      · subst h0
        have h1 : strip xs = [] := by rw [ih 0 (Nat.zero_le _) hz' (.inl rfl)]; simp
        have h2 : x ≠ 0 := by simpa using hn
        simp [strip, h1, h2]
      · have h1 := ih k hk' hz' (.inr (by
          rcases hn with h | h
          · omega
          · have e : k + 1 - 1 = (k - 1) + 1 := by omega
            rw [e] at h; simpa using h))
        have h2 : strip xs ≠ [] := by
          rw [h1]; intro h3
          have := congrArg List.length h3
          simp only [List.length_take, List.length_nil] at this
          omega
        simp [strip, h1]
        intro h3
        rw [h1] at h2
        rcases h3 with h3 | h3
        · exact absurd h3 h0
        · subst h3; simp at h2

/-! ### two numbers in order -/
theorem nval_cons_lt {B : Nat} {x y X Y : Nat} (hx : x < B) (h : X < Y) : x + B * X < y + B * Y := by
  have : B * (X + 1) ≤ B * Y := Nat.mul_le_mul_left _ h
  rw [Nat.mul_add] at this; omega

/-! ### k digits of a number, zeros among them -/
def dgs (B : Nat) : Nat → Nat → List Nat
  | 0, _ => []
  | k + 1, m => m % B :: dgs B k (m / B)
theorem dgs_length (B k m : Nat) : (dgs B k m).length = k := by
  induction k generalizing m with
  | zero => rfl
  | succ k ih => simp [dgs, ih]
theorem dgs_lt (B : Nat) (hB : 0 < B) (k m : Nat) : ∀ x ∈ dgs B k m, x < B := by
  induction k generalizing m with
  | zero => intro x hx; simp [dgs] at hx
  | succ k ih =>
    intro x hx
    simp only [dgs, List.mem_cons] at hx
    rcases hx with rfl | hx
    · exact Nat.mod_lt _ hB
    · exact ih _ _ hx
theorem dgs_val (B : Nat) (k m : Nat) : nval B (dgs B k m) = m % B ^ k := by
  induction k generalizing m with
  | zero => simp [dgs, nval, Nat.mod_one]
  | succ k ih =>
    simp only [dgs, nval, ih]
    rw [Nat.pow_succ, Nat.mul_comm (B ^ k) B, Nat.mod_mul]
theorem dgs_val_of (B : Nat) (k m : Nat) (h : m < B ^ k) : nval B (dgs B k m) = m := by rw [dgs_val, Nat.mod_eq_of_lt h]
theorem dgs_snoc (B k m : Nat) : dgs B (k + 1) m = dgs B k m ++ [m / B ^ k % B] := by
  induction k generalizing m with
  | zero => simp [dgs]
  | succ k ih =>
    rw [dgs, ih (m / B), dgs]
    simp only [List.cons_append, List.cons.injEq, true_and]
    rw [Nat.div_div_eq_div_mul, Nat.pow_succ, Nat.mul_comm B]
theorem dgs_nval (B : Nat) (hB : 0 < B) (xs : List Nat) (h : ∀ x ∈ xs, x < B) : dgs B xs.length (nval B xs) = xs := by
  induction xs with
  | nil => rfl
  | cons x xs ih =>
    have hx := h x (by simp)
    simp only [List.length_cons, dgs, nval]
    rw [Nat.add_mul_mod_self_left, Nat.mod_eq_of_lt hx, Nat.add_mul_div_left _ _ hB, Nat.div_eq_of_lt hx, Nat.zero_add, ih (fun z hz => h z (by simp [hz]))]
theorem nval_drop (B : Nat) (hB : 0 < B) (xs : List Nat) (h : ∀ x ∈ xs, x < B) (k : Nat) (hk : k ≤ xs.length) : nval B xs / B ^ k = nval B (xs.drop k) := by
  induction k generalizing xs with
  | zero => simp
  | succ k ih =>
    cases xs with
    | nil => simp at hk
    | cons x xs =>
      have hx := h x (by simp)
      rw [List.drop_succ_cons, ← ih xs (fun z hz => h z (by simp [hz])) (by simpa using hk), Nat.pow_succ, Nat.mul_comm, ← Nat.div_div_eq_div_mul]
      simp only [nval]
      rw [Nat.add_mul_div_left _ _ hB, Nat.div_eq_of_lt hx, Nat.zero_add]
/-- every number has its digits -/
theorem rep_exists (B : Nat) (hB : 1 < B) (m : Nat) : ∃ xs, Rep B xs m := by
  refine ⟨strip (dgs B (m + 1) m), ?_⟩
  have h : m < B ^ (m + 1) := Nat.lt_of_lt_of_le (Nat.lt_pow_self hB) (Nat.pow_le_pow_right (by omega) (by omega))
  have := strip_rep B (dgs B (m + 1) m) (dgs_lt B (by omega) _ _)
  rwa [dgs_val_of B _ m h] at this
theorem Rep.length_le {B : Nat} (hB : 0 < B) {xs : List Nat} {m k : Nat} (h : Rep B xs m) (hm : m < B ^ k) : xs.length ≤ k := by
  rcases Nat.lt_or_ge k xs.length with hlt | hge
  · exfalso
    have e := nval_drop B hB xs h.lt k (by omega)
    rw [h.val, Nat.div_eq_of_lt hm] at e
    have hne : xs.drop k ≠ [] := by
      intro h0
      have := congrArg List.length h0
      simp only [List.length_drop, List.length_nil] at this; omega
    have hn : Nrm (xs.drop k) := by
      have := h.nrm
      unfold Nrm at this ⊢
      rw [List.getLast?_drop, if_neg (by omega)]
      exact this
    have := nval_pos hB hn hne
    omega
  · exact hge
theorem Rep.val_lt {B : Nat} {xs : List Nat} {m : Nat} (h : Rep B xs m) : m < B ^ xs.length := by
  have := nval_lt B xs h.lt
  rwa [h.val] at this

/-! ### bytes, the highest first -/
/-- the number that bytes stand for, the highest first -/
def bval (ms : List Nat) : Nat := nval 256 ms.reverse
/-- the canonical bytes of a number, the highest first -/
def Bytes (ms : List Nat) (m : Nat) : Prop := Rep 256 ms.reverse m

theorem Bytes.unique {xs ys : List Nat} {m : Nat} (h : Bytes xs m) (k : Bytes ys m) : xs = ys := by
  have := Rep.unique (by omega) h k
  simpa using congrArg List.reverse this
theorem Bytes.nil_iff {xs : List Nat} {m : Nat} (h : Bytes xs m) : xs = [] ↔ m = 0 := by
  rw [← Rep.pos_iff (by omega) h]; simp
theorem Bytes.lt {xs : List Nat} {m : Nat} (h : Bytes xs m) : ∀ x ∈ xs, x < 256 := fun x hx => Rep.lt h x (by simpa using hx)
/-- behind the zeros that stand ahead -/
theorem cut_bytes (ms : List Nat) (h : ∀ x ∈ ms, x < 256) (k : Nat) (hk : k ≤ ms.length) (hz : ∀ i, i < k → ms.getD i 0 = 0) (hn : k = ms.length ∨ ms.getD k 0 ≠ 0) : Bytes (ms.drop k) (bval ms) := by
  refine ⟨fun x hx => h x (List.mem_of_mem_drop (by simpa using hx)), ?_, ?_⟩
  · unfold bval
    have e : ms.reverse = (ms.drop k).reverse ++ (ms.take k).reverse := by rw [← List.reverse_append, List.take_append_drop]
    rw [e, nval_append]
    have z : ms.take k = List.replicate k 0 := by
      apply List.ext_getElem
      · simp; omega
      · intro i h1 h2
        simp only [List.getElem_take, List.getElem_replicate]
        have := hz i (by simpa using h2)
        rwa [List.getD_eq_getElem?_getD, List.getElem?_eq_getElem (by simp at h1; omega)] at this
    rw [z, List.reverse_replicate, nval_replicate]; simp
  · unfold Nrm
    rw [List.getLast?_reverse, List.head?_drop]
    rcases hn with h2 | h2
    · rw [h2]; simp
    · intro h3; rw [List.getD_eq_getElem?_getD, h3] at h2; simp at h2

/-- byte number 8 k + j of a number whose words are xs -/
theorem word_byte (xs : List Nat) (h : ∀ x ∈ xs, x < 18446744073709551616) (k j : Nat) (hk : k < xs.length) (hj : j < 8) :
    xs.getD k 0 / 256 ^ j % 256 = nval 18446744073709551616 xs / 256 ^ (8 * k + j) % 256 := by
  have e1 : (256 : Nat) ^ (8 * k + j) = 18446744073709551616 ^ k * 256 ^ j := by
    rw [Nat.pow_add, Nat.pow_mul]
  rw [e1, ← Nat.div_div_eq_div_mul, nval_drop _ (by omega) xs h k (by omega), List.drop_eq_getElem_cons hk]
  simp only [nval]
  rw [List.getD_eq_getElem?_getD, List.getElem?_eq_getElem hk, Option.getD_some]
  generalize nval 18446744073709551616 (xs.drop (k + 1)) = r
  generalize xs[k] = x
  have e2 : (18446744073709551616 : Nat) = 256 ^ j * (256 * 256 ^ (7 - j)) := by
    rw [← Nat.pow_succ', ← Nat.pow_add]
    have : j + (7 - j).succ = 8 := by omega
    rw [this]
  have hp : 0 < 256 ^ j := Nat.pow_pos (by omega)
  rw [e2, Nat.mul_assoc, Nat.add_mul_div_left _ _ hp, Nat.mul_assoc, Nat.add_mul_mod_self_left]
theorem pow_words (n : Nat) : (18446744073709551616 : Nat) ^ n = 256 ^ (8 * n) := by rw [Nat.pow_mul]
theorem Bytes.length_le_of {ms : List Nat} {m : Nat} (n : Nat) (h : Bytes ms m) (hm : m < 256 ^ (8 * n)) : ms.length ≤ 8 * n := by
  have := Rep.length_le (by omega) h hm
  simpa using this
theorem Rep.words_le_of {xs : List Nat} {m : Nat} (n : Nat) (h : Rep 18446744073709551616 xs m) (hm : m < 256 ^ (8 * n)) : xs.length ≤ n := by
  refine Rep.length_le (by omega) h ?_
  rw [pow_words]; exact hm
theorem lt_pow_of {m j k : Nat} (h : m < 256 ^ j) (hk : j ≤ k) : m < 256 ^ k := Nat.lt_of_lt_of_le h (Nat.pow_le_pow_right (by omega) hk)
/-- a bound that all numbers here keep: so many words -/
def limW : Nat := 512
theorem limW_eq : limW = 512 := rfl
attribute [irreducible] limW
/-- a bound that all numbers here keep -/
def lim : Nat := 256 ^ (8 * limW)
theorem Bytes.length_le {ms : List Nat} {m : Nat} (h : Bytes ms m) (hm : m < lim) : ms.length ≤ 4096 := by
  have := Bytes.length_le_of limW h hm
  rw [limW_eq] at this; omega
theorem Rep.words_le {xs : List Nat} {m : Nat} (h : Rep 18446744073709551616 xs m) (hm : m < lim) : xs.length ≤ 512 := by
  have := Rep.words_le_of limW h hm
  rwa [limW_eq] at this
theorem lt_lim {m j : Nat} (h : m < 256 ^ j) (hk : j ≤ 4096) : m < lim := lt_pow_of h (by rw [limW_eq]; omega)
end Go.Proofs.YtpcnmgldmnncoaaGreatDoor.Dig

namespace Go.Proofs.YtpcnmgldmnncoaaGreatDoor
open Go.RowKit
set_option linter.unusedVariables false
set_option linter.unusedSimpArgs false

/-- the cells from a place on read as vs -/
def Rd (w : World) (b o : Nat) (vs : List Value) : Prop := ∀ i, i < vs.length → w.cell? ⟨b, o + i, none⟩ = some (vs.getD i undef)
/-- block b is just these cells, of element type e, none frozen -/
def Blk (w : World) (b : Nat) (e : TypeId) (L : List Value) : Prop := w.heap[b]? = some (.cells L.toArray e (0, 0))
/-- a slice value that reads as vs; its memory below block B -/
def Sl (w : World) (B : Nat) (v : Value) (vs : List Value) : Prop :=
  ∃ a c, v = .slice a vs.length c ∧ vs.length ≤ c ∧ (vs ≠ [] → ∃ b o, a = some ⟨b, o, none⟩ ∧ b < B ∧ Rd w b o vs)
/-- w' is as w but for new blocks and for what is written to block r -/
def Up (r : Option Nat) (w w' : World) : Prop := w.grownBy w' r

theorem lt_of_cell {w : World} {b o : Nat} {v : Value} (h : w.cell? ⟨b, o, none⟩ = some v) : b < w.heap.size := by
  rcases Nat.lt_or_ge b w.heap.size with hlt | hge
  · exact hlt
  · simp [World.cell?, Array.getElem?_eq_none hge] at h

section
variable {w w' : World} {b o B : Nat} {e : TypeId} {L vs : List Value} {v : Value}
theorem Blk.lt (h : Blk w b e L) : b < w.heap.size := by
  rcases Nat.lt_or_ge b w.heap.size with hlt | hge
  · exact hlt
  · unfold Blk at h; rw [Array.getElem?_eq_none hge] at h; cases h
theorem Blk.cell (h : Blk w b e L) (i : Nat) (hi : i < L.length) : w.cell? ⟨b, i, none⟩ = some (L.getD i undef) := by
  unfold Blk at h
  simp [World.cell?, h, List.getElem?_eq_getElem hi]
theorem Blk.free (h : Blk w b e L) (i : Nat) : w.frozen? ⟨b, i, none⟩ = false := by
  unfold Blk at h
  simp [World.frozen?, h]
theorem Blk.new (w : World) (e : TypeId) (L : List Value) : Blk (w.alloc (.cells L.toArray e)) w.heap.size e L := heap_alloc_new w _
theorem Blk.drewN (h : Blk w b e L) (n : Nat) : Blk (w.drewN n) b e L := h
theorem Blk.alloc (h : Blk w b e L) (x : Obj) : Blk (w.alloc x) b e L := (Below.heap_alloc w x b h.lt).trans h
theorem Blk.set (h : Blk w b e L) (i : Nat) (u : Value) : Blk (w.setCell ⟨b, i, none⟩ u) b e (L.set i u) := by
  unfold Blk at h ⊢
  simp [World.setCell, Array.getElem?_modify, h]
theorem Blk.far (h : Blk w b e L) {p : Addr} (hp : b ≠ p.block) (u : Value) : Blk (w.setCell p u) b e L := (Below.heap_setCell w p u b hp).trans h
theorem Blk.below (h : Blk w b e L) (hb : Below B w w') (hg : b < B) : Blk w' b e L := (hb.block b hg).trans h
theorem Blk.up {r : Option Nat} (h : Blk w b e L) (hb : Up r w w') (hg : some b ≠ r) : Blk w' b e L := (hb.block b h.lt hg).trans h
theorem Blk.rd (h : Blk w b e L) (hl : o + vs.length ≤ L.length) (hv : ∀ i, i < vs.length → L.getD (o + i) undef = vs.getD i undef) : Rd w b o vs := fun i hi => by
  rw [h.cell (o + i) (by omega), hv i hi]
theorem Blk.inj {e' : TypeId} {L' : List Value} (h : Blk w b e L) (h' : Blk w b e' L') : e = e' ∧ L = L' := by
  unfold Blk at h h'
  rw [h] at h'
  injection h' with h'
  injection h' with h1 h2
  exact ⟨h2, by simpa using congrArg Array.toList h1⟩

theorem Rd.at_ (h : Rd w b o vs) {i : Nat} (hi : i < vs.length) : w.cell? ⟨b, o + i, none⟩ = some (vs.getD i undef) := h i hi
theorem Rd.keep (h : Rd w b o vs) (hk : ∀ i, i < vs.length → w'.cell? ⟨b, o + i, none⟩ = w.cell? ⟨b, o + i, none⟩) : Rd w' b o vs := fun i hi => (hk i hi).trans (h i hi)
theorem Rd.below (h : Rd w b o vs) (hb : Below B w w') (hg : b < B) : Rd w' b o vs := h.keep fun i _ => hb.cell (p := ⟨b, o + i, none⟩) hg
theorem Rd.up {r : Option Nat} (h : Rd w b o vs) (hb : Up r w w') (hlt : b < w.heap.size) (hg : some b ≠ r) : Rd w' b o vs :=
  h.keep fun i _ => World.cell?_of_block (a := ⟨b, o + i, none⟩) (hb.block b hlt hg)
theorem Rd.drop (h : Rd w b o vs) (k : Nat) : Rd w b (o + k) (vs.drop k) := fun i hi => by
  have := h (k + i) (by simp at hi; omega)
  rw [Nat.add_assoc, this]; simp [List.getD_eq_getElem?_getD]
theorem Rd.take (h : Rd w b o vs) (k : Nat) : Rd w b o (vs.take k) := fun i hi => by
  simp only [List.length_take] at hi
  rw [h i (by omega)]
  simp [List.getD_eq_getElem?_getD, show i < k by omega]

theorem Sl.nil (w : World) (B : Nat) : Sl w B (.slice none 0 0) [] := ⟨none, 0, rfl, Nat.le_refl _, fun h => absurd rfl h⟩
theorem Sl.empty (w : World) (B : Nat) (a : Option Addr) (c : Nat) : Sl w B (.slice a 0 c) [] := ⟨a, c, rfl, Nat.zero_le _, fun h => absurd rfl h⟩
theorem Sl.mk {c : Nat} (h : Rd w b o vs) (hc : vs.length ≤ c) (hb : b < B) : Sl w B (.slice (some ⟨b, o, none⟩) vs.length c) vs := ⟨_, c, rfl, hc, fun _ => ⟨b, o, rfl, hb, h⟩⟩
theorem Sl.keep (h : Sl w B v vs) (hk : ∀ b o, b < B → w'.cell? ⟨b, o, none⟩ = w.cell? ⟨b, o, none⟩) : Sl w' B v vs := by
  obtain ⟨a, c, hv, hc, hr⟩ := h
  refine ⟨a, c, hv, hc, fun hne => ?_⟩
  obtain ⟨b, o, ha, hb, hrd⟩ := hr hne
  exact ⟨b, o, ha, hb, hrd.keep fun i _ => hk b _ hb⟩
theorem Sl.below (h : Sl w B v vs) (hb : Below B w w') : Sl w' B v vs := h.keep fun b o hlt => hb.cell (p := ⟨b, o, none⟩) hlt
theorem Sl.drewN (h : Sl w B v vs) (n : Nat) : Sl (w.drewN n) B v vs := h
theorem Sl.more {B' : Nat} (h : Sl w B v vs) (hB : B ≤ B') : Sl w B' v vs := by
  obtain ⟨a, c, hv, hc, hr⟩ := h
  refine ⟨a, c, hv, hc, fun hne => ?_⟩
  obtain ⟨b, o, ha, hb, hrd⟩ := hr hne
  exact ⟨b, o, ha, by omega, hrd⟩
/-- what is read below the heap's end -/
theorem Sl.here (h : Sl w B v vs) : Sl w w.heap.size v vs := by
  obtain ⟨a, c, hv, hc, hr⟩ := h
  refine ⟨a, c, hv, hc, fun hne => ?_⟩
  obtain ⟨b, o, ha, hb, hrd⟩ := hr hne
  have := hrd 0 (by cases vs with | nil => exact absurd rfl hne | cons => simp)
  exact ⟨b, o, ha, lt_of_cell this, hrd⟩

theorem Up.refl (r : Option Nat) (w : World) : Up r w w := World.grownBy.refl w r
theorem Up.drewN {r : Option Nat} (h : Up r w w') (n : Nat) : Up r w (w'.drewN n) := ⟨h.os, h.tape, h.output, h.size, h.block⟩
theorem Up.alloc {r : Option Nat} (h : Up r w w') (x : Obj) : Up r w (w'.alloc x) :=
  ⟨h.os, h.tape, h.output, by have := h.size; simp; omega, fun k hk hr => (Below.heap_alloc w' x k (by have := h.size; omega)).trans (h.block k hk hr)⟩
theorem Up.set {b : Nat} (h : Up (some b) w w') (i : Nat) (u : Value) : Up (some b) w (w'.setCell ⟨b, i, none⟩ u) :=
  ⟨h.os, h.tape, h.output, by have := h.size; simp [World.setCell]; omega, fun k hk hr => (Below.heap_setCell w' _ u k (by simpa using hr)).trans (h.block k hk hr)⟩
theorem Up.trans {r : Option Nat} {w'' : World} (h : Up r w w') (k : Up r w' w'') : Up r w w'' :=
  ⟨k.os.trans h.os, k.tape.trans h.tape, k.output.trans h.output, Nat.le_trans h.size k.size, fun i hi hr => (k.block i (Nat.lt_of_lt_of_le hi h.size) hr).trans (h.block i hi hr)⟩
theorem Up.below {r : Option Nat} (h : Up r w w') (hB : B ≤ w.heap.size) (hr : ∀ k, r = some k → B ≤ k) : Below B w w' := (Below.refl B w).grown h hB hr
theorem Up.of_below {r : Option Nat} (h : Below w.heap.size w w') : Up r w w' := ⟨h.os, h.tape, h.output, h.size, fun k hk _ => h.block k hk⟩
theorem Sl.up {b : Nat} (h : Sl w B v vs) (hb : Up (some b) w w') (hB : B ≤ w.heap.size) (hbB : B ≤ b) : Sl w' B v vs :=
  h.keep fun k o hk => World.cell?_of_block (a := ⟨k, o, none⟩) (hb.block k (by omega) (by simp; omega))
end

/-- words and bytes as values -/
def wv (x : Nat) : Value := .int .u64 (x : Int)
def bv (x : Nat) : Value := .int .u8 (x : Int)
theorem getD_map_wv (xs : List Nat) (i : Nat) (h : i < xs.length) : (xs.map wv).getD i undef = .int .u64 ((xs.getD i 0 : Nat) : Int) := by
  simp [List.getD_eq_getElem?_getD, List.getElem?_eq_getElem h, wv]
theorem getD_map_bv (xs : List Nat) (i : Nat) (h : i < xs.length) : (xs.map bv).getD i undef = .int .u8 ((xs.getD i 0 : Nat) : Int) := by
  simp [List.getD_eq_getElem?_getD, List.getElem?_eq_getElem h, bv]
/-- a store into a block that holds other things than vs turns nothing of vs -/
theorem Sl.far {w : World} {B b : Nat} {v : Value} {vs L : List Value} {e : TypeId} (h : Sl w B v vs) (hk : Blk w b e L) (hd : ∀ u ∈ L, u ∉ vs) (i : Nat) (y : Value) : Sl (w.setCell ⟨b, i, none⟩ y) B v vs := by
  obtain ⟨a, c, hv, hc, hr⟩ := h
  refine ⟨a, c, hv, hc, fun hne => ?_⟩
  obtain ⟨b', o, ha, hb, hrd⟩ := hr hne
  refine ⟨b', o, ha, hb, hrd.keep fun j _ => ?_⟩
  have hpos : 0 < vs.length := List.length_pos_iff.2 hne
  have hne2 : b' ≠ b := by
    rintro rfl
    have h0 := hrd 0 hpos
    rw [Nat.add_zero] at h0
    rcases Nat.lt_or_ge o L.length with hlt | hge
    · rw [hk.cell o hlt] at h0
      have e1 : L.getD o undef = vs.getD 0 undef := Option.some.inj h0
      rw [List.getD_eq_getElem?_getD, List.getD_eq_getElem?_getD, List.getElem?_eq_getElem hlt, List.getElem?_eq_getElem hpos] at e1
      exact hd _ (List.getElem_mem hlt) (by simp only [Option.getD_some] at e1; rw [e1]; exact List.getElem_mem hpos)
    · unfold Blk at hk
      simp [World.cell?, hk, List.getElem?_eq_none hge] at h0
  exact World.cell?_of_block (a := ⟨b', o + j, none⟩) (Below.heap_setCell w _ y b' hne2)
theorem not_bv {L : List Value} (h : ∀ u ∈ L, ∀ x, u ≠ bv x) (ms : List Nat) : ∀ u ∈ L, u ∉ ms.map bv := by
  intro u hu hm
  obtain ⟨x, _, hx⟩ := List.mem_map.1 hm
  exact h u hu x hx.symm
theorem not_wv {L : List Value} (h : ∀ u ∈ L, ∀ x, u ≠ wv x) (ms : List Nat) : ∀ u ∈ L, u ∉ ms.map wv := by
  intro u hu hm
  obtain ⟨x, _, hx⟩ := List.mem_map.1 hm
  exact h u hu x hx.symm
end Go.Proofs.YtpcnmgldmnncoaaGreatDoor

namespace Go.Proofs.YtpcnmgldmnncoaaGreatDoor.Dig

theorem dgs_mod (B k m : Nat) : dgs B k (m % B ^ k) = dgs B k m := by
  induction k generalizing m with
  | zero => rfl
  | succ k ih =>
    simp only [dgs]
    have e1 : m % B ^ (k + 1) % B = m % B := by rw [Nat.pow_succ, Nat.mul_comm]; exact Nat.mod_mul_right_mod _ _ _
    have e2 : m % B ^ (k + 1) / B = m / B % B ^ k := by rw [Nat.pow_succ, Nat.mul_comm]; exact Nat.mod_mul_right_div_self _ _ _
    rw [e1, e2, ih]
theorem dgs_congr {B k m m' : Nat} (h : m % B ^ k = m' % B ^ k) : dgs B k m = dgs B k m' := by rw [← dgs_mod, h, dgs_mod]
theorem dgs_add_mul (B k m a : Nat) : dgs B k (m + B ^ k * a) = dgs B k m := dgs_congr (Nat.add_mul_mod_self_left _ _ _)
theorem nval_take_succ (B : Nat) (xs : List Nat) (k : Nat) (hk : k < xs.length) : nval B (xs.take (k + 1)) = nval B (xs.take k) + B ^ k * xs.getD k 0 := by
  rw [List.take_succ_eq_append_getElem hk, nval_append]
  simp [nval, List.getD_eq_getElem?_getD, List.getElem?_eq_getElem hk, Nat.min_eq_left (Nat.le_of_lt hk)]
/-- one more digit of a sum S' = S + B ^ k * a -/
theorem dgs_step (B k S a : Nat) (hB : 0 < B) : dgs B (k + 1) (S + B ^ k * a) = dgs B k S ++ [(S / B ^ k + a) % B] ∧ (S + B ^ k * a) / B ^ (k + 1) = (S / B ^ k + a) / B := by
  have hp : 0 < B ^ k := Nat.pow_pos hB
  constructor
  · rw [dgs_snoc, dgs_add_mul, Nat.add_mul_div_left _ _ hp]
  · rw [Nat.pow_succ, ← Nat.div_div_eq_div_mul, Nat.add_mul_div_left _ _ hp]
/-- a difference, one digit more: X, Y the numbers of k digits, x, y the next ones -/
theorem sub_step (B k X Y x y : Nat) (hB : 0 < B) (hX : X < B ^ k) (hY : Y < B ^ k) (hy : y < B) :
    dgs B (k + 1) (X + B ^ k * x + B ^ (k + 1) - (Y + B ^ k * y)) = dgs B k (X + B ^ k - Y) ++ [(x + B - y - (if X < Y then 1 else 0)) % B] ∧
    ((if X + B ^ k * x < Y + B ^ k * y then 1 else 0) = (if x < y + (if X < Y then 1 else 0) then 1 else (0 : Nat))) := by
  have hp : 0 < B ^ k := Nat.pow_pos hB
  by_cases h : X < Y
  · simp only [if_pos h]
    constructor
    · have e : X + B ^ k * x + B ^ (k + 1) - (Y + B ^ k * y) = (X + B ^ k - Y) + B ^ k * (x + B - y - 1) := by
        rw [Nat.pow_succ]
        have : B ^ k * (x + B - y - 1) + B ^ k * y + B ^ k = B ^ k * x + B ^ k * B := by
          rw [← Nat.mul_add, ← Nat.mul_succ, ← Nat.mul_add]; congr 1; omega
        omega
      rw [e, (dgs_step B k _ _ hB).1]
      congr 2
      rw [Nat.div_eq_of_lt (by omega), Nat.zero_add]
    · by_cases h2 : x < y + 1
      · rw [if_pos h2, if_pos]
        have : B ^ k * x ≤ B ^ k * y := Nat.mul_le_mul_left _ (by omega)
        omega
      · rw [if_neg h2, if_neg]
        have : B ^ k * (y + 1) ≤ B ^ k * x := Nat.mul_le_mul_left _ (by omega)
        rw [Nat.mul_add] at this; omega
  · simp only [if_neg h]
    constructor
    · have e : X + B ^ k * x + B ^ (k + 1) - (Y + B ^ k * y) = (X - Y) + B ^ k * (x + B - y) := by
        rw [Nat.pow_succ]
        have : B ^ k * (x + B - y) + B ^ k * y = B ^ k * x + B ^ k * B := by
          rw [← Nat.mul_add, ← Nat.mul_add]; congr 1; omega
        omega
      rw [e, (dgs_step B k _ _ hB).1]
      have e2 : X + B ^ k - Y = (X - Y) + B ^ k * 1 := by omega
      rw [e2, dgs_add_mul]
      congr 2
      rw [Nat.div_eq_of_lt (by omega), Nat.zero_add]; rfl
    · by_cases h2 : x < y
      · have a : X + B ^ k * x < Y + B ^ k * y := by
          have : B ^ k * (x + 1) ≤ B ^ k * y := Nat.mul_le_mul_left _ h2
          rw [Nat.mul_add] at this; omega
        rw [if_pos a, if_pos (by omega)]
      · have a : ¬ X + B ^ k * x < Y + B ^ k * y := by
          have : B ^ k * y ≤ B ^ k * x := Nat.mul_le_mul_left _ (by omega)
          omega
        rw [if_neg a, if_neg (by omega)]
theorem nval_take (B : Nat) (xs : List Nat) (h : ∀ x ∈ xs, x < B) (k : Nat) (hk : k ≤ xs.length) : nval B (xs.take k) = nval B xs % B ^ k := by
  have e : nval B xs = nval B (xs.take k) + B ^ k * nval B (xs.drop k) := by
    conv => lhs; rw [← List.take_append_drop k xs]
    rw [nval_append, List.length_take, Nat.min_eq_left hk]
  have hlt : nval B (xs.take k) < B ^ k := by
    have := nval_lt B (xs.take k) (fun x hx => h x (List.mem_of_mem_take hx))
    rwa [List.length_take, Nat.min_eq_left hk] at this
  rw [e, Nat.add_mul_mod_self_left, Nat.mod_eq_of_lt hlt]
/-- eight bytes out of the middle are a word of the number -/
theorem word_of_bytes (ms : List Nat) (h : ∀ x ∈ ms, x < 256) (k i : Nat) (hi : i + 8 * k = ms.length) (h8 : 8 ≤ i) : bval ((ms.drop (i - 8)).take 8) = bval ms / 18446744073709551616 ^ k % 18446744073709551616 := by
  have hr : ∀ x ∈ ms.reverse, x < 256 := fun x hx => h x (by simpa using hx)
  have e1 : ((ms.drop (i - 8)).take 8).reverse = (ms.reverse.drop (8 * k)).take 8 := by
    rw [List.reverse_take, List.reverse_drop, List.length_drop, List.drop_take]
    congr 1
    · omega
    · congr 1; omega
  unfold bval
  rw [e1, nval_take 256 _ (fun x hx => hr x (List.mem_of_mem_drop hx)) 8 (by simp; omega), ← nval_drop 256 (by omega) ms.reverse hr (8 * k) (by simp; omega), pow_words]
/-- the first bytes are what is above -/
theorem top_of_bytes (ms : List Nat) (h : ∀ x ∈ ms, x < 256) (k i : Nat) (hi : i + 8 * k = ms.length) : bval (ms.take i) = bval ms / 18446744073709551616 ^ k := by
  have hr : ∀ x ∈ ms.reverse, x < 256 := fun x hx => h x (by simpa using hx)
  have e1 : (ms.take i).reverse = ms.reverse.drop (8 * k) := by
    rw [List.reverse_take]; congr 1; omega
  unfold bval
  rw [e1, pow_words, nval_drop 256 (by omega) ms.reverse hr (8 * k) (by simp; omega)]
theorem bval_lt (ms : List Nat) (h : ∀ x ∈ ms, x < 256) : bval ms < 256 ^ ms.length := by
  have := nval_lt 256 ms.reverse (fun x hx => h x (by simpa using hx))
  rwa [List.length_reverse] at this
/-- one byte more, from the end of the first i bytes on -/
theorem byte_up (ms : List Nat) (h : ∀ x ∈ ms, x < 256) (i j : Nat) (hi : i ≤ ms.length) (hj : j < i) : bval (ms.take i) % 256 ^ (j + 1) = bval (ms.take i) % 256 ^ j + 256 ^ j * ms.getD (i - j - 1) 0 := by
  have hr : ∀ x ∈ (ms.take i).reverse, x < 256 := fun x hx => h x (List.mem_of_mem_take (by simpa using hx))
  have hl : (ms.take i).reverse.length = i := by simp; omega
  unfold bval
  rw [← nval_take 256 _ hr (j + 1) (by omega), ← nval_take 256 _ hr j (by omega), nval_take_succ 256 _ j (by omega)]
  congr 2
  simp only [List.getD_eq_getElem?_getD]
  rw [List.getElem?_reverse (by simp; omega), List.getElem?_take, if_pos (by simp; omega)]
  congr 2
  simp; omega
end Go.Proofs.YtpcnmgldmnncoaaGreatDoor.Dig

namespace Go.Proofs.YtpcnmgldmnncoaaGreatDoor
open Go.RowKit Dig
set_option linter.unusedVariables false
set_option linter.unusedSimpArgs false

/-- a slice of words that is the number m -/
def Nt (w : World) (B : Nat) (v : Value) (m : Nat) : Prop := ∃ xs, Rep 18446744073709551616 xs m ∧ Sl w B v (xs.map wv)
/-- a slice of bytes, the highest first, that is the number m -/
def By (w : World) (B : Nat) (v : Value) (m : Nat) : Prop := ∃ ms, Bytes ms m ∧ Sl w B v (ms.map bv)
/-- a spec.Int -/
def Sp (w : World) (B : Nat) (v : Value) (i : Int) : Prop := ∃ mag, v = .agg #[.bool (decide (i < 0)), mag] ∧ By w B mag i.natAbs
/-- an impl.Val of the kind Int -/
def Va (w : World) (B : Nat) (v : Value) (i : Int) : Prop := ∃ mag, v = .agg #[.int .i64 2, .bool (decide (i < 0)), mag, .int .u64 0, .string ByteArray.empty, .slice none 0 0] ∧ By w B mag i.natAbs

section
variable {w w' : World} {B : Nat} {v : Value} {m : Nat} {i : Int}
theorem Nt.keep (h : Nt w B v m) (hk : ∀ b o, b < B → w'.cell? ⟨b, o, none⟩ = w.cell? ⟨b, o, none⟩) : Nt w' B v m := by
  obtain ⟨xs, h1, h2⟩ := h; exact ⟨xs, h1, h2.keep hk⟩
theorem Nt.below (h : Nt w B v m) (hb : Below B w w') : Nt w' B v m := h.keep fun b o hlt => hb.cell (p := ⟨b, o, none⟩) hlt
theorem Nt.more {B' : Nat} (h : Nt w B v m) (hB : B ≤ B') : Nt w B' v m := by obtain ⟨xs, h1, h2⟩ := h; exact ⟨xs, h1, h2.more hB⟩
theorem Nt.here (h : Nt w B v m) : Nt w w.heap.size v m := by obtain ⟨xs, h1, h2⟩ := h; exact ⟨xs, h1, h2.here⟩
theorem Nt.drewN (h : Nt w B v m) (n : Nat) : Nt (w.drewN n) B v m := h
theorem By.keep (h : By w B v m) (hk : ∀ b o, b < B → w'.cell? ⟨b, o, none⟩ = w.cell? ⟨b, o, none⟩) : By w' B v m := by
  obtain ⟨xs, h1, h2⟩ := h; exact ⟨xs, h1, h2.keep hk⟩
theorem By.below (h : By w B v m) (hb : Below B w w') : By w' B v m := h.keep fun b o hlt => hb.cell (p := ⟨b, o, none⟩) hlt
theorem By.more {B' : Nat} (h : By w B v m) (hB : B ≤ B') : By w B' v m := by obtain ⟨xs, h1, h2⟩ := h; exact ⟨xs, h1, h2.more hB⟩
theorem By.here (h : By w B v m) : By w w.heap.size v m := by obtain ⟨xs, h1, h2⟩ := h; exact ⟨xs, h1, h2.here⟩
theorem By.drewN (h : By w B v m) (n : Nat) : By (w.drewN n) B v m := h
theorem Sp.below (h : Sp w B v i) (hb : Below B w w') : Sp w' B v i := by obtain ⟨mag, h1, h2⟩ := h; exact ⟨mag, h1, h2.below hb⟩
theorem Sp.more {B' : Nat} (h : Sp w B v i) (hB : B ≤ B') : Sp w B' v i := by obtain ⟨mag, h1, h2⟩ := h; exact ⟨mag, h1, h2.more hB⟩
theorem Sp.here (h : Sp w B v i) : Sp w w.heap.size v i := by obtain ⟨mag, h1, h2⟩ := h; exact ⟨mag, h1, h2.here⟩
theorem Sp.form (h : Sp w B v i) : ∃ (neg : Bool) (a : Option Addr) (k c : Nat), v = .agg #[.bool neg, .slice a k c] := by
  obtain ⟨mag, rfl, ms, _, a, c, rfl, _⟩ := h; exact ⟨_, a, _, c, rfl⟩
theorem Sp.drewN (h : Sp w B v i) (n : Nat) : Sp (w.drewN n) B v i := h
theorem Va.below (h : Va w B v i) (hb : Below B w w') : Va w' B v i := by obtain ⟨mag, h1, h2⟩ := h; exact ⟨mag, h1, h2.below hb⟩
theorem Va.more {B' : Nat} (h : Va w B v i) (hB : B ≤ B') : Va w B' v i := by obtain ⟨mag, h1, h2⟩ := h; exact ⟨mag, h1, h2.more hB⟩
theorem Va.here (h : Va w B v i) : Va w w.heap.size v i := by obtain ⟨mag, h1, h2⟩ := h; exact ⟨mag, h1, h2.here⟩
theorem Va.drewN (h : Va w B v i) (n : Nat) : Va (w.drewN n) B v i := h
end

/-- a *big.Int: a block of its own -/
def Bg (w : World) (B : Nat) (p : Option Addr) (i : Int) : Prop :=
  ∃ b abs, p = some ⟨b, 0, none⟩ ∧ b < B ∧ Blk w b 55 [.bool (decide (i < 0)), abs] ∧ Nt w B abs i.natAbs
/-- a starlark.Int: a small one is an int32, a great one is none -/
def In (w : World) (B : Nat) (v : Value) (i : Int) : Prop :=
  ∃ s p, v = .agg #[.int .i64 s, .pointer p] ∧ ((p = none ∧ s = i ∧ -2147483648 ≤ i ∧ i ≤ 2147483647) ∨ (s = 0 ∧ ¬ (-2147483648 ≤ i ∧ i ≤ 2147483647) ∧ Bg w B p i))
section
variable {w w' : World} {B : Nat} {v : Value} {p : Option Addr} {i : Int}
theorem Bg.below (h : Bg w B p i) (hb : Below B w w') : Bg w' B p i := by
  obtain ⟨b, abs, h1, h2, h3, h4⟩ := h; exact ⟨b, abs, h1, h2, h3.below hb h2, h4.below hb⟩
theorem Bg.more {B' : Nat} (h : Bg w B p i) (hB : B ≤ B') : Bg w B' p i := by
  obtain ⟨b, abs, h1, h2, h3, h4⟩ := h; exact ⟨b, abs, h1, by omega, h3, h4.more hB⟩
theorem Bg.here (h : Bg w B p i) : Bg w w.heap.size p i := by
  obtain ⟨b, abs, h1, h2, h3, h4⟩ := h; exact ⟨b, abs, h1, h3.lt, h3, h4.here⟩
theorem Bg.drewN (h : Bg w B p i) (n : Nat) : Bg (w.drewN n) B p i := h
theorem In.below (h : In w B v i) (hb : Below B w w') : In w' B v i := by
  obtain ⟨s, p, h1, h2⟩ := h
  refine ⟨s, p, h1, ?_⟩
  rcases h2 with h2 | ⟨h2, h3, h4⟩
  · exact .inl h2
  · exact .inr ⟨h2, h3, h4.below hb⟩
theorem In.more {B' : Nat} (h : In w B v i) (hB : B ≤ B') : In w B' v i := by
  obtain ⟨s, p, h1, h2⟩ := h
  refine ⟨s, p, h1, ?_⟩
  rcases h2 with h2 | ⟨h2, h3, h4⟩
  · exact .inl h2
  · exact .inr ⟨h2, h3, h4.more hB⟩
theorem In.here (h : In w B v i) : In w w.heap.size v i := by
  obtain ⟨s, p, h1, h2⟩ := h
  refine ⟨s, p, h1, ?_⟩
  rcases h2 with h2 | ⟨h2, h3, h4⟩
  · exact .inl h2
  · exact .inr ⟨h2, h3, h4.here⟩
theorem In.drewN (h : In w B v i) (n : Nat) : In (w.drewN n) B v i := h
end
end Go.Proofs.YtpcnmgldmnncoaaGreatDoor

namespace Go.Proofs.YtpcnmgldmnncoaaGreatDoor
open Go.RowKit Dig
set_option linter.unusedVariables false
set_option linter.unusedSimpArgs false

theorem add_zero_off (b o i : Nat) : (⟨b, o, none⟩ : Addr).add i = ⟨b, o + i, none⟩ := by
  unfold Addr.add
  by_cases h : i = 0
  · subst h; simp
  · simp [h]

/-- what is owned reads as a list -/
theorem Sl.of_own {w : World} {base e : Nat} {v : Value} {xs : List Value} (h : w.ownsRow base e 1 v xs.length xs) : Sl w w.heap.size v xs := by
  rcases h.2 with ⟨rfl, h0⟩ | ⟨g, cap, cur, rfl, hb, hh, hn, hc, hs, ht⟩
  · have : xs = [] := List.eq_nil_of_length_eq_zero h0
    subst this; exact Sl.nil _ _
  · refine ⟨_, cap, rfl, hn, fun hne => ⟨g, 0, rfl, ?_, fun i hi => ?_⟩⟩
    · have hB : Blk w g e cur.toList := by unfold Blk; rw [hh]
      exact hB.lt
    · have hB : Blk w g e cur.toList := by unfold Blk; rw [hh]
      have hlen : i < cur.toList.length := by rw [Array.length_toList, hs]; omega
      rw [Nat.zero_add, hB.cell i hlen]
      rw [Nat.mul_one] at ht
      have e1 : xs.getD i undef = (List.take xs.length cur.toList).getD i undef := by rw [ht]
      rw [e1, List.getD_eq_getElem?_getD, List.getD_eq_getElem?_getD, List.getElem?_take, if_pos hi]

theorem oneCell_bv (ms : List Nat) : ∀ u ∈ ms.map bv, u.oneCell' = true := by
  intro u hu
  obtain ⟨x, _, rfl⟩ := List.mem_map.1 hu
  rfl
theorem oneCell_wv (ms : List Nat) : ∀ u ∈ ms.map wv, u.oneCell' = true := by
  intro u hu
  obtain ⟨x, _, rfl⟩ := List.mem_map.1 hu
  rfl

section
variable {P : Program} (w : World)
theorem run_append_nothing (base : Nat) (t ty e : TypeId) (i : TypeInfo) (ht : P.underlying t = some (.slice e)) (hi : P.info? e = some i)
    (v : Value) (n : Nat) (xs : List Value) (hown : w.ownsRow base e 1 v n xs) (c : Nat) : (Builtin.append_ #[t, t] ty #[v, .slice none 0 c]).run P w = .ok v w := by
  rcases hown.2 with ⟨rfl, rfl⟩ | ⟨g, cap, cur, rfl, _, _, hnc, _⟩
  · simp [Builtin.append_, run_underlying ht, sizeOf, typeInfo, hi, Builtin.lenOf, Builtin.firstCells]
  · simp [Builtin.append_, run_underlying ht, sizeOf, typeInfo, hi, Builtin.lenOf, Builtin.firstCells, hnc, storeCells]

/-- 'append(out, src...)', out a row of the call's own, src any slice of one-cell elements -/
theorem wpList_append_sl {ops : Array Oper} {rest : List Oper} {o : Oper} {a : Act} {Q : Exit → Act → World → Prop} (hgd : o.guard = none) (s x : Operand) (t : TypeId)
    (ho : o.op = .call { callee := .builtin .append, args := #[s, x], argTypes := #[t, t] })
    (base : Nat) (e : TypeId) (i : TypeInfo) (z : Value) (bytes : Nat) (ht : P.underlying t = some (.slice e)) (hi : P.info? e = some i) (hz : i.zero = some z)
    (hsize : i.size = 1) (hby : i.bytes = bytes) (hzs : z.cells.size = 1)
    (v : Value) (n : Nat) (xs : List Value) (hs : a.eval s = v) (hown : w.ownsRow base e 1 v n xs)
    (B : Nat) (src : Value) (news : List Value) (hx : a.eval x = src) (hr : Sl w B src news) (h1 : ∀ u ∈ news, u.oneCell' = true)
    (h63 : n + news.length ≤ maxLen) (hbytes : (n + news.length) * bytes ≤ 140737488355328) (hbase : base ≤ w.heap.size)
    (h : ∀ v' w', w'.ownsRow base e 1 v' (n + news.length) (xs ++ news) → w.grownBy w' v.ownBlock → wpList P ops Q rest (a.put o.dst v') w') : wpList P ops Q (o :: rest) a w := by
  obtain ⟨A, c, rfl, hc, hrd⟩ := hr
  rcases A with _ | ad
  · have hn : news = [] := by
      by_cases hne : news = []
      · exact hne
      · obtain ⟨b, o, h0, _⟩ := hrd hne; cases h0
    subst hn
    refine wpList_plain hgd fun K hK => ?_
    have hrun := run_append_nothing (P := P) w base t o.type e i ht hi v n xs hown c
    unfold Oper.wp execOp
    simp only [ho, resolve, invoke, builtin, Sem.run_bind, Sem.run_pure, Result.andThen_ok, List.map_toArray, List.map_cons, List.map_nil, hs, hx, List.length_nil, hrun]
    exact hK _ _ (h v w (by simpa using hown) (World.grownBy.refl w _))
  · refine wpList_append_own w hgd s x t ho base e i z 1 bytes ht hi hz hsize hby hzs (by omega) v n xs hs hown ad news.length c news hx (by simp) ?_ h1 h63 hbytes hbase (fun v' w' h2 h3 _ => h v' w' h2 h3)
    intro j u hu
    have hj : j < news.length := by
      rcases Nat.lt_or_ge j news.length with h | h
      · exact h
      · rw [List.getElem?_eq_none h] at hu; cases hu
    obtain ⟨b, o, h0, _, hcell⟩ := hrd (by intro h0; subst h0; simp at hj)
    injection h0 with h0
    subst h0
    rw [add_zero_off, hcell j hj, List.getD_eq_getElem?_getD, hu]; rfl
/-- 'append([]T{}, src...)' as a step of a region that draws its order -/
theorem step_append_new {ops : Array Oper} {o : Oper} {a : Act} {K : Act → World → Prop} {Q : Exit → Act → World → Prop} {E : Prop} (hgd : o.guard = none) (s x : Operand) (t : TypeId)
    (ho : o.op = .call { callee := .builtin .append, args := #[s, x], argTypes := #[t, t] })
    (e : TypeId) (i : TypeInfo) (z : Value) (bytes : Nat) (ht : P.underlying t = some (.slice e)) (hi : P.info? e = some i) (hz : i.zero = some z)
    (hsize : i.size = 1) (hby : i.bytes = bytes) (hzs : z.cells.size = 1)
    (b : Nat) (hs : a.eval s = .slice (some ⟨b, 0, none⟩) 0 0) (hb : Blk w b e [])
    (B : Nat) (src : Value) (news : List Value) (hx : a.eval x = src) (hr : Sl w B src news) (h1 : ∀ u ∈ news, u.oneCell' = true)
    (h63 : news.length ≤ maxLen) (hbytes : news.length * bytes ≤ 140737488355328)
    (h : ∀ a' c' w', Sl w' w'.heap.size (.slice a' news.length c') news → Up (some b) w w' → K (a.put o.dst (.slice a' news.length c')) w') :
    if Region.wanted o (yielded ops a.tmps) = true then Oper.wp P o a w K Q else E := by
  have hw : Region.wanted o (yielded ops a.tmps) = true := by simp [Region.wanted, hgd]
  rw [if_pos hw]
  have hown : w.ownsRow b e 1 (.slice (some ⟨b, 0, none⟩) 0 0) 0 [] := by
    refine ⟨rfl, .inr ⟨b, 0, #[], rfl, Nat.le_refl _, hb, Nat.le_refl _, ?_, rfl, rfl⟩⟩
    simp [maxLen]
  obtain ⟨A, c, rfl, hc, hrd⟩ := hr
  rcases A with _ | ad
  · have hn : news = [] := by
      by_cases hne : news = []
      · exact hne
      · obtain ⟨b', o', h0, _⟩ := hrd hne; cases h0
    subst hn
    have hrun := run_append_nothing (P := P) w b t o.type e i ht hi _ 0 [] hown c
    unfold Oper.wp
    simp only [List.length_nil] at hx
    simp [execOp, ho, resolve, invoke, builtin, hs, hx, hrun, Result.andThen]
    exact h _ _ _ (Sl.empty _ _ _ _) (Up.refl _ _)
  · obtain ⟨v', w', hrun, r1, r2, _⟩ := run_append_own (P := P) w b t o.type e i z 1 bytes ht hi hz hsize hby hzs (by omega) (.slice (some ⟨b, 0, none⟩) 0 0) 0 [] hown ad news.length c news (by simp) (by
      intro j u hu
      have hj : j < news.length := by
        rcases Nat.lt_or_ge j news.length with h | h
        · exact h
        · rw [List.getElem?_eq_none h] at hu; cases hu
      obtain ⟨b', o', h0, _, hcell⟩ := hrd (by intro h0; subst h0; simp at hj)
      injection h0 with h0
      subst h0
      rw [add_zero_off, hcell j hj, List.getD_eq_getElem?_getD, hu]; rfl) h1 (by simpa using h63) (by simpa using hbytes) (Nat.le_of_lt hb.lt)
    unfold Oper.wp
    simp [execOp, ho, resolve, invoke, builtin, hs, hx, hrun, Result.andThen]
    have r1' : w'.ownsRow b e 1 v' news.length news := by simpa using r1
    have hsl := Sl.of_own r1'
    obtain ⟨a', c', rfl, _⟩ := id hsl
    exact h a' c' w' hsl r2
end

/-- a cut 's[k:]', as the walk writes it -/
theorem Sl.cut {w : World} {B : Nat} {vs : List Value} {a : Option Addr} {n c : Nat} (h : Sl w B (.slice a n c) vs) (k : Nat) (hk : k ≤ vs.length) :
    Sl w B (.slice (if c = k then a else a.map (·.add k)) (n - k) (c - k)) (vs.drop k) := by
  obtain ⟨a', c', hv, hc, hr⟩ := h
  simp only [Value.slice.injEq] at hv
  obtain ⟨rfl, rfl, rfl⟩ := hv
  refine ⟨_, c - k, by rw [List.length_drop], by rw [List.length_drop]; omega, fun hne => ?_⟩
  have hlt : k < vs.length := by
    rcases Nat.lt_or_ge k vs.length with h | h
    · exact h
    · exact absurd (List.drop_eq_nil_of_le h) hne
  obtain ⟨b, o, rfl, hb, hrd⟩ := hr (by intro h0; subst h0; simp at hlt)
  rw [if_neg (by omega)]
  exact ⟨b, o + k, by simp [add_zero_off], hb, hrd.drop k⟩
end Go.Proofs.YtpcnmgldmnncoaaGreatDoor
