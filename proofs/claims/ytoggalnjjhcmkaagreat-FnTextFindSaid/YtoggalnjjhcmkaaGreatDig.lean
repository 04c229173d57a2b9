/- Plain arithmetic of digits: a list of digits in a base, the lowest first, and the number that it stands for; bytes, the highest first. No program in sight. -/
namespace Go.Proofs.YtoggalnjjhcmkaaGreat.Dig

/-- the number that digits stand for, the lowest first -/
def nval (B : Nat) : List Nat → Nat
  | [] => 0
  | x :: xs => x + B * nval B xs

/-- no leading 0 -/
def Nrm (xs : List Nat) : Prop := xs.getLast? ≠ some 0

/-- canonical digits of a number -/
structure Rep (B : Nat) (xs : List Nat) (m : Nat) : Prop where
  lt : ∀ x ∈ xs, x < B
  val : nval B xs = m
  nrm : Nrm xs

theorem nval_append (B : Nat) (xs ys : List Nat) : nval B (xs ++ ys) = nval B xs + B ^ xs.length * nval B ys := by
  induction xs with
  | nil => simp [nval]
  | cons x xs ih =>
    simp only [List.cons_append, nval, ih, List.length_cons, Nat.pow_succ]
    rw [Nat.mul_add, ← Nat.mul_assoc, Nat.mul_comm B (B ^ xs.length), Nat.add_assoc]

theorem nval_lt (B : Nat) (xs : List Nat) (h : ∀ x ∈ xs, x < B) : nval B xs < B ^ xs.length := by
  induction xs with
  | nil => simp [nval]
  | cons x xs ih =>
    have h1 := h x (by simp)
    have h2 := ih (fun y hy => h y (by simp [hy]))
    simp only [nval, List.length_cons, Nat.pow_succ]
    have : B * (nval B xs + 1) ≤ B ^ xs.length * B := by rw [Nat.mul_comm]; exact Nat.mul_le_mul_right _ h2
    rw [Nat.mul_add] at this
    omega

theorem nval_replicate (B n : Nat) : nval B (List.replicate n 0) = 0 := by
  induction n with
  | zero => rfl
  | succ n ih => simp [List.replicate_succ, nval, ih]

theorem Nrm.tail {x : Nat} {xs : List Nat} (h : Nrm (x :: xs)) (hne : xs ≠ []) : Nrm xs := by
  cases xs with
  | nil => exact absurd rfl hne
  | cons y ys => simpa [Nrm, List.getLast?_cons_cons] using h

theorem nval_pos {B : Nat} (hB : 0 < B) {xs : List Nat} (h : Nrm xs) (hne : xs ≠ []) : 0 < nval B xs := by
  induction xs with
  | nil => exact absurd rfl hne
  | cons x xs ih =>
    by_cases hx : xs = []
    · subst hx
      simp only [Nrm, List.getLast?_singleton, ne_eq, Option.some.injEq] at h
      simp only [nval]; omega
    · have := ih (h.tail hx) hx
      have : 0 < B * nval B xs := Nat.mul_pos hB this
      simp only [nval]; omega

theorem Rep.pos_iff {B : Nat} (hB : 0 < B) {xs : List Nat} {m : Nat} (h : Rep B xs m) : xs = [] ↔ m = 0 := by
  constructor
  · rintro rfl; rw [← h.val]; rfl
  · intro hm
    by_cases hx : xs = []
    · exact hx
    · have := nval_pos hB h.nrm hx
      rw [h.val] at this; omega

/-- the digits of a number are known -/
theorem Rep.unique {B : Nat} (hB : 0 < B) {xs ys : List Nat} {m : Nat} (h : Rep B xs m) (k : Rep B ys m) : xs = ys := by
  induction xs generalizing ys m with
  | nil => exact ((k.pos_iff hB).2 ((h.pos_iff hB).1 rfl)).symm
  | cons x xs ih =>
    cases ys with
    | nil => exact (h.pos_iff hB).2 ((k.pos_iff hB).1 rfl)
    | cons y ys =>
      have e1 := h.val; have e2 := k.val
      simp only [nval] at e1 e2
      have hx := h.lt x (by simp); have hy := k.lt y (by simp)
      have a : x = y := by
        have := congrArg (· % B) (e1.trans e2.symm)
        simpa [Nat.add_mul_mod_self_left, Nat.mod_eq_of_lt hx, Nat.mod_eq_of_lt hy] using this
      subst a
      have b : nval B xs = nval B ys := Nat.eq_of_mul_eq_mul_left hB (by omega)
      have hN : ∀ (zs : List Nat), Nrm (x :: zs) → Nrm zs := fun zs hz => by
        by_cases hzs : zs = []
        · subst hzs; simp [Nrm]
        · exact hz.tail hzs
      rw [ih (ys := ys) (m := nval B xs) ⟨fun z hz => h.lt z (by simp [hz]), rfl, hN _ h.nrm⟩ ⟨fun z hz => k.lt z (by simp [hz]), b.symm, hN _ k.nrm⟩]

/-- striking leading zeros -/
def strip : List Nat → List Nat
  | [] => []
  | x :: xs => if strip xs = [] ∧ x = 0 then [] else x :: strip xs

theorem strip_val (B : Nat) (xs : List Nat) : nval B (strip xs) = nval B xs := by
  induction xs with
  | nil => rfl
  | cons x xs ih =>
    simp only [strip]
    split
    · rename_i h
      have : nval B xs = 0 := by rw [← ih, h.1]; rfl
      simp [nval, this, h.2]
    · simp [nval, ih]
theorem strip_nrm (xs : List Nat) : Nrm (strip xs) := by
  induction xs with
  | nil => simp [Nrm, strip]
  | cons x xs ih =>
    simp only [strip]
    split
    · simp [Nrm]
    · rename_i h
      by_cases hs : strip xs = []
      · rw [hs]
        simp only [Nrm, List.getLast?_singleton, ne_eq, Option.some.injEq]
        intro hx; exact h ⟨hs, hx⟩
      · obtain ⟨y, ys, e⟩ := List.exists_cons_of_ne_nil hs
        rw [e] at ih ⊢
        simpa [Nrm, List.getLast?_cons_cons] using ih
theorem strip_lt (B : Nat) (xs : List Nat) (h : ∀ x ∈ xs, x < B) : ∀ x ∈ strip xs, x < B := by
  induction xs with
  | nil => intro x hx; simp [strip] at hx
  | cons y ys ih =>
    intro x hx
    simp only [strip] at hx
    split at hx
    · simp at hx
    · rcases List.mem_cons.1 hx with rfl | hx
      · exact h _ (by simp)
      · exact ih (fun z hz => h z (by simp [hz])) x hx
theorem strip_rep (B : Nat) (xs : List Nat) (h : ∀ x ∈ xs, x < B) : Rep B (strip xs) (nval B xs) := ⟨strip_lt B xs h, strip_val B xs, strip_nrm xs⟩
theorem strip_length (xs : List Nat) : (strip xs).length ≤ xs.length := by
  induction xs with
  | nil => simp [strip]
  | cons x xs ih =>
    simp only [strip]
    split
    · simp
    · simp only [List.length_cons]; omega
/-- what strip leaves is a beginning -/
theorem strip_take (xs : List Nat) : strip xs = xs.take (strip xs).length := by
  induction xs with
  | nil => rfl
  | cons x xs ih =>
    simp only [strip]
    split
    · simp
    · simp only [List.length_cons, List.take_succ_cons]; rw [← ih]
/-- the rest are zeros -/
theorem strip_drop (xs : List Nat) : ∀ x ∈ xs.drop (strip xs).length, x = 0 := by
  induction xs with
  | nil => intro x hx; simp at hx
  | cons y ys ih =>
    simp only [strip]
    split
    · rename_i h
      intro x hx
      rw [h.1] at ih
      simp only [List.length_nil, List.drop_zero, List.mem_cons] at hx ih
      rcases hx with rfl | hx
      · exact h.2
      · exact ih x hx
    · simpa using ih
/-- a beginning whose last digit is not 0, behind which all are 0: that is what strip leaves -/
theorem strip_of (xs : List Nat) (k : Nat) (hk : k ≤ xs.length) (hz : ∀ i, k ≤ i → i < xs.length → xs.getD i 0 = 0) (hn : k = 0 ∨ xs.getD (k - 1) 0 ≠ 0) : strip xs = xs.take k := by
  induction xs generalizing k with
  | nil => simp at hk; subst hk; rfl
  | cons x xs ih =>
    cases k with
    | zero =>
      have h1 : strip xs = [] := by
        rw [ih 0 (Nat.zero_le _) (fun i _ hi => by simpa using hz (i + 1) (by omega) (by simp; omega)) (.inl rfl)]; simp
      have h2 : x = 0 := by simpa using hz 0 (by omega) (by simp)
      simp [strip, h1, h2]
    | succ k =>
      have hk' : k ≤ xs.length := by simpa using hk
      have hz' : ∀ i, k ≤ i → i < xs.length → xs.getD i 0 = 0 := fun i h1 h2 => by simpa using hz (i + 1) (by omega) (by simp; omega)
      by_cases h0 : k = 0
      · subst h0
        have h1 : strip xs = [] := by rw [ih 0 (Nat.zero_le _) hz' (.inl rfl)]; simp
        have h2 : x ≠ 0 := by simpa using hn
        simp [strip, h1, h2]
      · have h1 := ih k hk' hz' (.inr (by
          rcases hn with h | h
          · omega
          · have e : k + 1 - 1 = (k - 1) + 1 := by omega
            rw [e] at h; simpa using h))
        have h2 : strip xs ≠ [] := by
          rw [h1]; intro h3
          have := congrArg List.length h3
          simp only [List.length_take, List.length_nil] at this
          omega
        simp [strip, h1]
        intro h3
        rw [h1] at h2
        rcases h3 with h3 | h3
        · exact absurd h3 h0
        · subst h3; simp at h2

/-! ### two numbers in order -/
theorem nval_cons_lt {B : Nat} {x y X Y : Nat} (hx : x < B) (h : X < Y) : x + B * X < y + B * Y := by
  have : B * (X + 1) ≤ B * Y := Nat.mul_le_mul_left _ h
  rw [Nat.mul_add] at this; omega

/-! ### k digits of a number, zeros among them -/
def dgs (B : Nat) : Nat → Nat → List Nat
  | 0, _ => []
  | k + 1, m => m % B :: dgs B k (m / B)
theorem dgs_length (B k m : Nat) : (dgs B k m).length = k := by
  induction k generalizing m with
  | zero => rfl
  | succ k ih => simp [dgs, ih]
theorem dgs_lt (B : Nat) (hB : 0 < B) (k m : Nat) : ∀ x ∈ dgs B k m, x < B := by
  induction k generalizing m with
  | zero => intro x hx; simp [dgs] at hx
  | succ k ih =>
    intro x hx
    simp only [dgs, List.mem_cons] at hx
    rcases hx with rfl | hx
    · exact Nat.mod_lt _ hB
    · exact ih _ _ hx
theorem dgs_val (B : Nat) (k m : Nat) : nval B (dgs B k m) = m % B ^ k := by
  induction k generalizing m with
  | zero => simp [dgs, nval, Nat.mod_one]
  | succ k ih =>
    simp only [dgs, nval, ih]
    rw [Nat.pow_succ, Nat.mul_comm (B ^ k) B, Nat.mod_mul]
theorem dgs_val_of (B : Nat) (k m : Nat) (h : m < B ^ k) : nval B (dgs B k m) = m := by rw [dgs_val, Nat.mod_eq_of_lt h]
theorem dgs_snoc (B k m : Nat) : dgs B (k + 1) m = dgs B k m ++ [m / B ^ k % B] := by
  induction k generalizing m with
  | zero => simp [dgs]
  | succ k ih =>
    rw [dgs, ih (m / B), dgs]
    simp only [List.cons_append, List.cons.injEq, true_and]
    rw [Nat.div_div_eq_div_mul, Nat.pow_succ, Nat.mul_comm B]
theorem dgs_nval (B : Nat) (hB : 0 < B) (xs : List Nat) (h : ∀ x ∈ xs, x < B) : dgs B xs.length (nval B xs) = xs := by
  induction xs with
  | nil => rfl
  | cons x xs ih =>
    have hx := h x (by simp)
    simp only [List.length_cons, dgs, nval]
    rw [Nat.add_mul_mod_self_left, Nat.mod_eq_of_lt hx, Nat.add_mul_div_left _ _ hB, Nat.div_eq_of_lt hx, Nat.zero_add, ih (fun z hz => h z (by simp [hz]))]
theorem nval_drop (B : Nat) (hB : 0 < B) (xs : List Nat) (h : ∀ x ∈ xs, x < B) (k : Nat) (hk : k ≤ xs.length) : nval B xs / B ^ k = nval B (xs.drop k) := by
  induction k generalizing xs with
  | zero => simp
  | succ k ih =>
    cases xs with
    | nil => simp at hk
    | cons x xs =>
      have hx := h x (by simp)
      rw [List.drop_succ_cons, ← ih xs (fun z hz => h z (by simp [hz])) (by simpa using hk), Nat.pow_succ, Nat.mul_comm, ← Nat.div_div_eq_div_mul]
      simp only [nval]
      rw [Nat.add_mul_div_left _ _ hB, Nat.div_eq_of_lt hx, Nat.zero_add]
/-- every number has its digits -/
theorem rep_exists (B : Nat) (hB : 1 < B) (m : Nat) : ∃ xs, Rep B xs m := by
  refine ⟨strip (dgs B (m + 1) m), ?_⟩
  have h : m < B ^ (m + 1) := Nat.lt_of_lt_of_le (Nat.lt_pow_self hB) (Nat.pow_le_pow_right (by omega) (by omega))
  have := strip_rep B (dgs B (m + 1) m) (dgs_lt B (by omega) _ _)
  rwa [dgs_val_of B _ m h] at this
theorem Rep.length_le {B : Nat} (hB : 0 < B) {xs : List Nat} {m k : Nat} (h : Rep B xs m) (hm : m < B ^ k) : xs.length ≤ k := by
  rcases Nat.lt_or_ge k xs.length with hlt | hge
  · exfalso
    have e := nval_drop B hB xs h.lt k (by omega)
    rw [h.val, Nat.div_eq_of_lt hm] at e
    have hne : xs.drop k ≠ [] := by
      intro h0
      have := congrArg List.length h0
      simp only [List.length_drop, List.length_nil] at this; omega
    have hn : Nrm (xs.drop k) := by
      have := h.nrm
      unfold Nrm at this ⊢
      rw [List.getLast?_drop, if_neg (by omega)]
      exact this
    have := nval_pos hB hn hne
    omega
  · exact hge
theorem Rep.val_lt {B : Nat} {xs : List Nat} {m : Nat} (h : Rep B xs m) : m < B ^ xs.length := by
  have := nval_lt B xs h.lt
  rwa [h.val] at this

/-! ### bytes, the highest first -/
/-- the number that bytes stand for, the highest first -/
def bval (ms : List Nat) : Nat := nval 256 ms.reverse
/-- the canonical bytes of a number, the highest first -/
def Bytes (ms : List Nat) (m : Nat) : Prop := Rep 256 ms.reverse m

theorem Bytes.unique {xs ys : List Nat} {m : Nat} (h : Bytes xs m) (k : Bytes ys m) : xs = ys := by
  have := Rep.unique (by omega) h k
  simpa using congrArg List.reverse this
theorem Bytes.nil_iff {xs : List Nat} {m : Nat} (h : Bytes xs m) : xs = [] ↔ m = 0 := by
  rw [← Rep.pos_iff (by omega) h]; simp
theorem Bytes.lt {xs : List Nat} {m : Nat} (h : Bytes xs m) : ∀ x ∈ xs, x < 256 := fun x hx => Rep.lt h x (by simpa using hx)
/-- behind the zeros that stand ahead -/
theorem cut_bytes (ms : List Nat) (h : ∀ x ∈ ms, x < 256) (k : Nat) (hk : k ≤ ms.length) (hz : ∀ i, i < k → ms.getD i 0 = 0) (hn : k = ms.length ∨ ms.getD k 0 ≠ 0) : Bytes (ms.drop k) (bval ms) := by
  refine ⟨fun x hx => h x (List.mem_of_mem_drop (by simpa using hx)), ?_, ?_⟩
  · unfold bval
    have e : ms.reverse = (ms.drop k).reverse ++ (ms.take k).reverse := by rw [← List.reverse_append, List.take_append_drop]
    rw [e, nval_append]
    have z : ms.take k = List.replicate k 0 := by
      apply List.ext_getElem
      · simp; omega
      · intro i h1 h2
        simp only [List.getElem_take, List.getElem_replicate]
        have := hz i (by simpa using h2)
        rwa [List.getD_eq_getElem?_getD, List.getElem?_eq_getElem (by simp at h1; omega)] at this
    rw [z, List.reverse_replicate, nval_replicate]; simp
  · unfold Nrm
    rw [List.getLast?_reverse, List.head?_drop]
    rcases hn with h2 | h2
    · rw [h2]; simp
    · intro h3; rw [List.getD_eq_getElem?_getD, h3] at h2; simp at h2

/-- byte number 8 k + j of a number whose words are xs -/
theorem word_byte (xs : List Nat) (h : ∀ x ∈ xs, x < 18446744073709551616) (k j : Nat) (hk : k < xs.length) (hj : j < 8) :
    xs.getD k 0 / 256 ^ j % 256 = nval 18446744073709551616 xs / 256 ^ (8 * k + j) % 256 := by
  have e1 : (256 : Nat) ^ (8 * k + j) = 18446744073709551616 ^ k * 256 ^ j := by
    rw [Nat.pow_add, Nat.pow_mul]
  rw [e1, ← Nat.div_div_eq_div_mul, nval_drop _ (by omega) xs h k (by omega), List.drop_eq_getElem_cons hk]
  simp only [nval]
  rw [List.getD_eq_getElem?_getD, List.getElem?_eq_getElem hk, Option.getD_some]
  generalize nval 18446744073709551616 (xs.drop (k + 1)) = r
  generalize xs[k] = x
  have e2 : (18446744073709551616 : Nat) = 256 ^ j * (256 * 256 ^ (7 - j)) := by
    rw [← Nat.pow_succ', ← Nat.pow_add]
    have : j + (7 - j).succ = 8 := by omega
    rw [this]
  have hp : 0 < 256 ^ j := Nat.pow_pos (by omega)
  rw [e2, Nat.mul_assoc, Nat.add_mul_div_left _ _ hp, Nat.mul_assoc, Nat.add_mul_mod_self_left]
theorem pow_words (n : Nat) : (18446744073709551616 : Nat) ^ n = 256 ^ (8 * n) := by rw [Nat.pow_mul]
theorem Bytes.length_le_of {ms : List Nat} {m : Nat} (n : Nat) (h : Bytes ms m) (hm : m < 256 ^ (8 * n)) : ms.length ≤ 8 * n := by
  have := Rep.length_le (by omega) h hm
  simpa using this
theorem Rep.words_le_of {xs : List Nat} {m : Nat} (n : Nat) (h : Rep 18446744073709551616 xs m) (hm : m < 256 ^ (8 * n)) : xs.length ≤ n := by
  refine Rep.length_le (by omega) h ?_
  rw [pow_words]; exact hm
theorem lt_pow_of {m j k : Nat} (h : m < 256 ^ j) (hk : j ≤ k) : m < 256 ^ k := Nat.lt_of_lt_of_le h (Nat.pow_le_pow_right (by omega) hk)
/-- a bound that all numbers here keep: so many words -/
def limW : Nat := 512
theorem limW_eq : limW = 512 := rfl
attribute [irreducible] limW
/-- a bound that all numbers here keep -/
def lim : Nat := 256 ^ (8 * limW)
theorem Bytes.length_le {ms : List Nat} {m : Nat} (h : Bytes ms m) (hm : m < lim) : ms.length ≤ 4096 := by
  have := Bytes.length_le_of limW h hm
  rw [limW_eq] at this; omega
theorem Rep.words_le {xs : List Nat} {m : Nat} (h : Rep 18446744073709551616 xs m) (hm : m < lim) : xs.length ≤ 512 := by
  have := Rep.words_le_of limW h hm
  rwa [limW_eq] at this
theorem lt_lim {m j : Nat} (h : m < 256 ^ j) (hk : j ≤ 4096) : m < lim := lt_pow_of h (by rw [limW_eq]; omega)
end Go.Proofs.YtoggalnjjhcmkaaGreat.Dig
