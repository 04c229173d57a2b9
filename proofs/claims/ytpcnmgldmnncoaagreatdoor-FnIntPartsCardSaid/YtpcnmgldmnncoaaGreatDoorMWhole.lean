/- math/bits.Len64 (the walk's ways are those of the shelf's text, turned), Len; nat.bitLen, (*Int).BitLen: how many bits. (*Int).BitLen, low64, Int64, SetBytes, Neg; isSmall, MakeBigInt; impl.whole: an impl.Val as an integer of the package. (*Int).SetBytes, Neg, impl.whole: an impl.Val as an integer of the package. What two Vals are while a third one is reckoned of them: the words for the walks of impl.IntAdd and its kin. -/
import Derived.Test.YtpcnmgldmnncoaaGreatDoorMTold
import Derived.Laws.Bits64b
import Derived.Lib.Strings
import Derived.Lib.Slices
import Derived.Lib.Small
import Derived.Lib.Walk
import Derived.Lib.BitFns
import Derived.Deep.Light
import Derived.Test.YtpcnmgldmnncoaaGreatDoorMNew
namespace Go.Proofs.YtpcnmgldmnncoaaGreatDoor
open Go.RowKit Dig
set_option linter.unusedVariables false
set_option linter.unusedSimpArgs false
set_option maxRecDepth 100000

theorem len8tab_size : (Lib.len8tab.size : Int) = 256 := by
  have : Lib.len8tab.size = 256 := by decide
  omega
theorem wrap_add (k a b : Nat) (hk : k ≤ 56) (ha : a ≤ 8) (hb : b = k + a) : RowKit.wrap64 ((k : Int) + RowKit.wrap64 (a : Int)) = (b : Int) := by
  unfold RowKit.wrap64
  omega
theorem wrap_wrap (a : Nat) (ha : a ≤ 8) : RowKit.wrap64 (RowKit.wrap64 (a : Int)) = (a : Int) := by
  unfold RowKit.wrap64
  omega
theorem wrap_one (a : Nat) (ha : a ≤ 8) : RowKit.wrap64 (a : Int) = (a : Int) := by
  unfold RowKit.wrap64
  omega
theorem len8_get (y : Int) (h : y.toNat < Lib.len8tab.size) : ((Lib.len8tab[y.toNat]'h).toNat : Int) = Lib.len8 y := by
  unfold Lib.len8
  rw [getElem?_pos Lib.len8tab y.toNat h]
  rfl

set_option maxHeartbeats 4000000 in
theorem bits_Len64 (x : Int) (w : World) (h0 : 0 ≤ x) (h1 : x ≤ 18446744073709551615) :
    Calls Tryz.prog 117 #[.int .u64 x] w fun e w' => e = .returned (.int .i64 (Lib.bitLen x.toNat)) ∧ w' = w := by
  go_enter Tryz.func117, Tryz.ntmps117
  go_wp2
  all_goals first
    | (go_ret; refine ⟨congrArg Ending.returned (congrArg (Value.int IntKind.i64) ?_), rfl⟩; go_light)
    | (exfalso
       go_light
       have hs := len8tab_size
       omega)
  all_goals first
    | (rw [len8_get (x / 4294967296 / 65536 / 256) _, Lib.len8_of (x / 4294967296 / 65536 / 256) (by omega) (by omega)]
       have e : (x / 4294967296 / 65536 / 256).toNat = x.toNat / 72057594037927936 := by omega
       have l := Lib.bitLen_le8' (x / 4294967296 / 65536 / 256) (by omega) (by omega)
       have s := Lib.bitLen_shift56 x.toNat (by omega) (by omega)
       rw [e] at l ⊢
       exact wrap_add 56 _ _ (by decide) l s)
    | (rw [len8_get (x / 4294967296 / 65536) _, Lib.len8_of (x / 4294967296 / 65536) (by omega) (by omega)]
       have e : (x / 4294967296 / 65536).toNat = x.toNat / 281474976710656 := by omega
       have l := Lib.bitLen_le8' (x / 4294967296 / 65536) (by omega) (by omega)
       have s := Lib.bitLen_shift48 x.toNat (by omega) (by omega)
       rw [e] at l ⊢
       exact wrap_add 48 _ _ (by decide) l s)
    | (rw [len8_get (x / 4294967296 / 256) _, Lib.len8_of (x / 4294967296 / 256) (by omega) (by omega)]
       have e : (x / 4294967296 / 256).toNat = x.toNat / 1099511627776 := by omega
       have l := Lib.bitLen_le8' (x / 4294967296 / 256) (by omega) (by omega)
       have s := Lib.bitLen_shift40 x.toNat (by omega) (by omega)
       rw [e] at l ⊢
       exact wrap_add 40 _ _ (by decide) l s)
    | (rw [len8_get (x / 4294967296) _, Lib.len8_of (x / 4294967296) (by omega) (by omega)]
       have e : (x / 4294967296).toNat = x.toNat / 4294967296 := by omega
       have l := Lib.bitLen_le8' (x / 4294967296) (by omega) (by omega)
       have s := Lib.bitLen_shift32 x.toNat (by omega) (by omega)
       rw [e] at l ⊢
       exact wrap_add 32 _ _ (by decide) l s)
    | (rw [len8_get (x / 65536 / 256) _, Lib.len8_of (x / 65536 / 256) (by omega) (by omega)]
       have e : (x / 65536 / 256).toNat = x.toNat / 16777216 := by omega
       have l := Lib.bitLen_le8' (x / 65536 / 256) (by omega) (by omega)
       have s := Lib.bitLen_shift24 x.toNat (by omega) (by omega)
       rw [e] at l ⊢
       exact wrap_add 24 _ _ (by decide) l s)
    | (rw [len8_get (x / 65536) _, Lib.len8_of (x / 65536) (by omega) (by omega)]
       have e : (x / 65536).toNat = x.toNat / 65536 := by omega
       have l := Lib.bitLen_le8' (x / 65536) (by omega) (by omega)
       have s := Lib.bitLen_shift16 x.toNat (by omega) (by omega)
       rw [e] at l ⊢
       exact wrap_add 16 _ _ (by decide) l s)
    | (rw [len8_get (x / 256) _, Lib.len8_of (x / 256) (by omega) (by omega)]
       have e : (x / 256).toNat = x.toNat / 256 := by omega
       have l := Lib.bitLen_le8' (x / 256) (by omega) (by omega)
       have s := Lib.bitLen_shift8 x.toNat (by omega) (by omega)
       rw [e] at l ⊢
       exact wrap_add 8 _ _ (by decide) l s)
    | (rw [len8_get (x) _, Lib.len8_of (x) (by omega) (by omega)]
       have e : (x).toNat = x.toNat := by omega
       have l := Lib.bitLen_le8' (x) (by omega) (by omega)
       rw [e] at l ⊢
       first | exact wrap_wrap _ l | exact wrap_add 0 _ _ (by decide) l (by omega) | exact wrap_one _ l)

theorem bits_Len (x : Int) (w : World) (h0 : 0 ≤ x) (h1 : x ≤ 18446744073709551615) : Calls Tryz.prog 96 #[.int .u64 x] w fun e w' => e = .returned (.int .i64 (Lib.bitLen x.toNat)) ∧ w' = w := by
  go_enter Tryz.func96, Tryz.ntmps96
  go_wp2_with fail
  refine (bits_Len64 x w h0 h1).mono ?_
  rintro e w' ⟨rfl, rfl⟩
  go_wp2_with fail
  go_ret
  exact ⟨rfl, rfl⟩

theorem bitLenAux_spec : ∀ (f x : Nat), x < 2 ^ f → x < 2 ^ Lib.bitLenAux f x ∧ (x ≠ 0 → 2 ^ Lib.bitLenAux f x ≤ 2 * x)
  | 0, x, h => by
    have : x = 0 := by simpa using h
    subst this; simp [Lib.bitLenAux]
  | f + 1, x, h => by
    by_cases h0 : x = 0
    · subst h0; simp [Lib.bitLenAux]
    · have ih := bitLenAux_spec f (x / 2) (by rw [Nat.pow_succ] at h; omega)
      simp only [Lib.bitLenAux, if_neg h0]
      rw [Nat.add_comm 1, Nat.pow_succ]
      refine ⟨by omega, fun _ => ?_⟩
      by_cases h1 : x / 2 = 0
      · have e : Lib.bitLenAux f 0 = 0 := by cases f <;> simp [Lib.bitLenAux]
        rw [h1, e]; omega
      · have := ih.2 h1; omega

/-- how long a number is in bits: told by what it says of its size -/
def IsLen (m L : Nat) : Prop := m < 2 ^ L ∧ (m ≠ 0 → 2 ^ L ≤ 2 * m) ∧ (m = 0 → L = 0)
theorem bitLen_is (x : Nat) (h : x < 18446744073709551616) : IsLen x (Lib.bitLen x) := by
  have := bitLenAux_spec 64 x h
  exact ⟨this.1, this.2, fun e => by subst e; rfl⟩

/-- a word with all that is below its first one set: neither longer nor shorter -/
def or1 (d : Int) (t : Int) : Int := bits BinOp.or IntKind.u64 t (t / d)
def smear (x : Int) : Int := bits BinOp.or IntKind.u64 (or1 65536 (or1 256 (or1 16 (or1 4 (or1 2 x))))) (or1 65536 (or1 256 (or1 16 (or1 4 (or1 2 x)))) / 65536 / 65536)
def Sme (x : Nat) (t : Int) : Prop := ∃ y : Nat, t = y ∧ y < 18446744073709551616 ∧ x ≤ y ∧ ∀ L, x < 2 ^ L → y < 2 ^ L
theorem Sme.or {x : Nat} {t u : Int} (h : Sme x t) (d : Nat) (hd : 0 < d) (hu : u = t / (d : Int)) : Sme x (bits BinOp.or IntKind.u64 t u) := by
  obtain ⟨y, rfl, h1, h2, h3⟩ := h
  have hu' : u = ((y / d : Nat) : Int) := by rw [hu]; simp
  have hy : y / d ≤ y := Nat.div_le_self _ _
  rw [hu', bits_or_u64_nat y (y / d) h1 (by omega)]
  refine ⟨_, rfl, Nat.or_lt_two_pow (n := 64) h1 (by omega), Nat.le_trans h2 Nat.left_le_or, fun L hL => ?_⟩
  have := h3 L hL
  exact Nat.or_lt_two_pow this (by omega)
theorem smear_sme (x : Nat) (h : x < 18446744073709551616) : Sme x (smear x) := by
  have h0 : Sme x (x : Int) := ⟨x, rfl, h, Nat.le_refl _, fun _ h => h⟩
  have h1 := h0.or 2 (by omega) rfl
  have h2 := h1.or 4 (by omega) rfl
  have h3 := h2.or 16 (by omega) rfl
  have h4 := h3.or 256 (by omega) rfl
  have h5 := h4.or 65536 (by omega) rfl
  exact h5.or 4294967296 (by omega) (Int.ediv_ediv_of_nonneg (by decide))

def BLPost (m : Nat) (w : World) (e : Ending) (w' : World) : Prop := ∃ L : Nat, e = .returned (.int .i64 L) ∧ IsLen m L ∧ w = w'

theorem IsLen.top {low x k L : Nat} (h : IsLen x L) (hx : x ≠ 0) (hl : low < 2 ^ (64 * k)) : IsLen (low + 2 ^ (64 * k) * x) (64 * k + L) := by
  obtain ⟨h1, h2, h3⟩ := h
  have h2 := h2 hx
  have hp := Nat.two_pow_pos (64 * k)
  unfold IsLen
  rw [Nat.pow_add]
  generalize 2 ^ (64 * k) = P at *
  generalize 2 ^ L = Q at *
  have e1 : P * (x + 1) ≤ P * Q := Nat.mul_le_mul_left P h1
  have e2 : P * Q ≤ P * (2 * x) := Nat.mul_le_mul_left P h2
  rw [Nat.mul_add] at e1
  have e3 : P * (2 * x) = 2 * (P * x) := by rw [Nat.mul_left_comm]
  have e4 : P * 1 ≤ P * x := Nat.mul_le_mul_left P (by omega)
  refine ⟨by omega, fun _ => by omega, fun h0 => by omega⟩

theorem nval_last {B : Nat} (xs : List Nat) (h : xs ≠ []) : nval B xs = nval B (xs.take (xs.length - 1)) + B ^ (xs.length - 1) * xs.getD (xs.length - 1) 0 := by
  have hp := List.length_pos_iff.2 h
  have := nval_take_succ B xs (xs.length - 1) (by omega)
  rwa [show xs.length - 1 + 1 = xs.length by omega, List.take_length] at this
theorem Nrm.last {xs : List Nat} (h : Nrm xs) (hne : xs ≠ []) : xs.getD (xs.length - 1) 0 ≠ 0 := by
  have hp := List.length_pos_iff.2 hne
  unfold Nrm at h
  rw [List.getLast?_eq_getElem?] at h
  rw [List.getD_eq_getElem?_getD]
  rw [List.getElem?_eq_getElem (by omega)] at h ⊢
  intro h0; apply h; simpa using h0

set_option maxHeartbeats 1600000 in
theorem bitLen_any (m : Nat) (v : Value) (w : World) (hs : Nt w w.heap.size v m) (hm : m < lim) :
    Calls Tryz.prog 73 #[v] w (BLPost m w) := by
  obtain ⟨xs, hrep, hs⟩ := hs
  have hl := hrep.words_le hm
  obtain ⟨a, c, rfl, hc, hr⟩ := hs
  simp only [List.length_map, ne_eq, List.map_eq_nil_iff] at hc hr ⊢
  by_cases h0 : xs = []
  · subst h0
    have FIN : Hid (IsLen m 0) := by
      have : m = 0 := ((hrep.pos_iff (by omega)).1 rfl)
      subst this
      exact ⟨by simp, by simp, by simp⟩
    clear hr hrep hm
    go_enter Tryz.func73, Tryz.ntmps73
    go_wp2_with fail
    go_ret
    exact ⟨0, rfl, FIN.out, rfl⟩
  · obtain ⟨b, o, rfl, hb, hrd⟩ := hr h0
    have hp : 0 < xs.length := List.length_pos_iff.2 h0
    have hcell := hrd (xs.length - 1) (by simp; omega)
    rw [getD_map_wv xs _ (by omega)] at hcell
    have hxx : xs.getD (xs.length - 1) 0 < 18446744073709551616 := hrep.lt _ (by rw [List.getD_eq_getElem?_getD, List.getElem?_eq_getElem (by omega)]; simp)
    have hnz := Nrm.last hrep.nrm h0
    have e1 := nval_last (B := 18446744073709551616) xs h0
    rw [hrep.val] at e1
    have hlow := nval_lt 18446744073709551616 (xs.take (xs.length - 1)) (fun x hx => hrep.lt x (List.mem_of_mem_take hx))
    rw [List.length_take, Nat.min_eq_left (by omega)] at hlow
    obtain ⟨n, hn⟩ : ∃ n, n = xs.length := ⟨_, rfl⟩
    rw [← hn] at hcell hl hc hp hxx hnz e1 hlow ⊢
    have FIN : Hid (∀ T : Int, Sme (xs.getD (n - 1) 0) T → T ≤ 18446744073709551615 ∧ 0 ≤ T ∧ IsLen m (64 * (n - 1) + Lib.bitLen T.toNat) ∧ Lib.bitLen T.toNat ≤ 64) := Lib.hid (by
      rintro T ⟨y, rfl, hy, hxy, hup⟩
      have hb := bitLen_is y hy
      rw [Int.toNat_natCast]
      have hy0 : y ≠ 0 := by omega
      have h64 : Lib.bitLen y ≤ 64 := by
        have := hb.2.1 hy0
        rcases Nat.lt_or_ge 64 (Lib.bitLen y) with hlt | hge
        · have : (2 : Nat) ^ 65 ≤ 2 ^ Lib.bitLen y := Nat.pow_le_pow_right (by omega) hlt
          omega
        · exact hge
      refine ⟨by omega, by omega, ?_, h64⟩
      have hx : IsLen (xs.getD (n - 1) 0) (Lib.bitLen y) := by
        refine ⟨Nat.lt_of_le_of_lt hxy hb.1, fun _ => ?_, fun h => absurd h hnz⟩
        have h1 := hb.2.1 hy0
        rcases Nat.lt_or_ge (2 * xs.getD (n - 1) 0) (2 ^ Lib.bitLen y) with hlt | hge
        · exfalso
          have hLpos : Lib.bitLen y ≠ 0 := by
            intro h; have := hb.1; rw [h] at this; omega
          obtain ⟨j, hj⟩ : ∃ j, Lib.bitLen y = j + 1 := ⟨Lib.bitLen y - 1, by omega⟩
          rw [hj, Nat.pow_succ] at hlt h1
          have := hup j (by omega)
          omega
        · exact hge
      rw [e1]
      have ep : (18446744073709551616 : Nat) ^ (n - 1) = 2 ^ (64 * (n - 1)) := by rw [Nat.pow_mul]
      rw [ep] at hlow ⊢
      exact hx.top hnz hlow)
    generalize xs.getD (n - 1) 0 = x at *
    have SM := Lib.hid (smear_sme x hxx)
    clear hr hrd hn h0 hlow e1 hnz hrep hm
    go_enter Tryz.func73, Tryz.ntmps73
    go_wp2_with fail
    obtain ⟨T, hT⟩ : ∃ T, T = smear x := ⟨_, rfl⟩
    have HT := Lib.hid (hT ▸ FIN.out _ SM.out)
    change Calls _ _ #[.int .u64 (smear x)] _ _
    rw [← hT]
    refine (bits_Len T w HT.out.2.1 HT.out.1).mono ?_
    rintro e w' ⟨rfl, rfl⟩
    have h64 := HT.out.2.2.2
    have HF := Lib.hid HT.out.2.2.1
    generalize Lib.bitLen T.toNat = L at *
    clear HT SM hT FIN
    go_wp2_with fail
    go_ret
    exact ⟨64 * (n - 1) + L, congrArg (fun z => Ending.returned (.int .i64 z)) (by go_num), HF.out, rfl⟩
end Go.Proofs.YtpcnmgldmnncoaaGreatDoor

namespace Go.Proofs.YtpcnmgldmnncoaaGreatDoor
open Go.RowKit Dig
set_option linter.unusedVariables false
set_option linter.unusedSimpArgs false
set_option maxRecDepth 100000

theorem BitLen_any (p : Option Addr) (i : Int) (w : World) (h : Bg w w.heap.size p i) (hl : i.natAbs < lim) : Calls Tryz.prog 58 #[.pointer p] w (BLPost i.natAbs w) := by
  obtain ⟨b, abs, rfl, hb, hk, hn⟩ := h
  have x1 : w.cell? ⟨b, 1, none⟩ = some abs := hk.cell 1 (by simp)
  have CORE := Lib.hid (bitLen_any _ abs w hn hl)
  clear hk hn
  go_enter Tryz.func58, Tryz.ntmps58
  go_wp2_with fail
  refine CORE.out.mono ?_
  rintro e w' ⟨L, rfl, hL, rfl⟩
  have HL := Lib.hid hL
  clear hL
  go_wp2_with fail
  go_ret
  exact ⟨L, rfl, HL.out, rfl⟩

theorem low64_any (m : Nat) (v : Value) (w : World) (hs : Nt w w.heap.size v m) (hm : m < 18446744073709551616) : Calls Tryz.prog 59 #[v] w fun e w' => e = .returned (.int .u64 m) ∧ w = w' := by
  obtain ⟨xs, hrep, hs⟩ := hs
  have hl : xs.length ≤ 1 := hrep.length_le (k := 1) (by omega) (by simpa using hm)
  obtain ⟨a, c, rfl, hc, hr⟩ := hs
  simp only [List.length_map, ne_eq, List.map_eq_nil_iff] at hc hr ⊢
  by_cases h0 : xs = []
  · subst h0
    have : m = 0 := ((hrep.pos_iff (by omega)).1 rfl)
    subst this
    clear hr hrep
    go_enter Tryz.func59, Tryz.ntmps59
    go_wp2_with fail
    go_ret
    exact ⟨rfl, rfl⟩
  · obtain ⟨b, o, rfl, hb, hrd⟩ := hr h0
    match xs, h0, hl with
    | [x], _, _ =>
      have e : x = m := by have := hrep.val; simpa [nval] using this
      subst e
      have hcell := hrd 0 (by simp)
      simp only [List.map_cons, List.map_nil, List.getD_cons_zero, Nat.add_zero, wv] at hcell
      clear hr hrd hrep
      simp only [List.length_cons, List.length_nil, Nat.zero_add] at hc ⊢
      go_enter Tryz.func59, Tryz.ntmps59
      go_wp2_with fail
      go_ret
      exact ⟨rfl, rfl⟩

theorem Int64_any (p : Option Addr) (i : Int) (w : World) (h : Bg w w.heap.size p i) (hl : i.natAbs < 9223372036854775808) : Calls Tryz.prog 45 #[.pointer p] w fun e w' => e = .returned (.int .i64 i) ∧ w = w' := by
  obtain ⟨b, abs, rfl, hb, hk, hn⟩ := h
  have x0 : w.cell? ⟨b, 0, none⟩ = some (.bool (decide (i < 0))) := hk.cell 0 (by simp)
  have x1 : w.cell? ⟨b, 1, none⟩ = some abs := hk.cell 1 (by simp)
  have CORE := Lib.hid (low64_any _ abs w hn (by omega))
  obtain ⟨m, hm⟩ : ∃ m, m = i.natAbs := ⟨_, rfl⟩
  rw [← hm] at CORE hl
  have HM : Hid (i = if i < 0 then -(m : Int) else m) := Lib.hid (by split <;> omega)
  clear hk hn hm
  by_cases h2 : i < 0
  · rw [decide_eq_true h2] at x0
    rw [if_pos h2] at HM
    clear h2
    go_enter Tryz.func45, Tryz.ntmps45
    go_wp2_with fail
    refine CORE.out.mono ?_
    rintro e w' ⟨rfl, rfl⟩
    go_wp2_with fail
    go_ret
    exact ⟨congrArg (fun z => Ending.returned (.int .i64 z)) HM.out.symm, rfl⟩
  · rw [decide_eq_false h2] at x0
    rw [if_neg h2] at HM
    clear h2
    go_enter Tryz.func45, Tryz.ntmps45
    go_wp2_with fail
    refine CORE.out.mono ?_
    rintro e w' ⟨rfl, rfl⟩
    go_wp2_with fail
    go_ret
    exact ⟨congrArg (fun z => Ending.returned (.int .i64 z)) HM.out.symm, rfl⟩

def smallI (i : Int) : Bool := decide (-2147483648 ≤ i ∧ i ≤ 2147483647)
theorem isSmall_any (p : Option Addr) (i : Int) (w : World) (h : Bg w w.heap.size p i) (hl : i.natAbs < lim) : Calls Tryz.prog 44 #[.pointer p] w fun e w' => e = .returned (.bool (smallI i)) ∧ w = w' := by
  obtain ⟨S, hS⟩ : ∃ S, S = smallI i := ⟨_, rfl⟩
  have HB := Lib.hid h
  have HS := Lib.hid hS
  rw [← hS]
  clear hS
  have H64 : Hid (i.natAbs < 9223372036854775808 → Calls Tryz.prog 45 #[.pointer p] w fun e w' => e = .returned (.int .i64 i) ∧ w = w') := Lib.hid (fun hi => Int64_any p i w h hi)
  clear h
  go_enter Tryz.func44, Tryz.ntmps44
  go_wp2_with fail
  refine (BitLen_any p i w HB.out hl).mono ?_
  rintro e w' ⟨L, rfl, hL, rfl⟩
  have hLL : Hid (L < 32 → S = true) := Lib.hid (fun h => by
    rw [HS.out]
    have h1 := hL.1
    have : (2 : Nat) ^ L ≤ 2 ^ 31 := Nat.pow_le_pow_right (by omega) (by omega)
    unfold smallI
    exact decide_eq_true (by omega))
  have hLG : Hid (32 < L → S = false) := Lib.hid (fun h => by
    rw [HS.out]
    have h2 := hL.2.1
    have h0 := hL.2.2
    have : (2 : Nat) ^ 33 ≤ 2 ^ L := Nat.pow_le_pow_right (by omega) (by omega)
    unfold smallI
    exact decide_eq_false (by omega))
  have hL32 : Hid (L = 32 → i.natAbs < 9223372036854775808 ∧ S = decide (i = -2147483648)) := Lib.hid (fun h => by
    subst h
    have h1 := hL.1
    have h2 := hL.2.1
    have h0 := hL.2.2
    refine ⟨by omega, ?_⟩
    rw [HS.out]
    unfold smallI
    by_cases hi : i = -2147483648
    · subst hi; rfl
    · rw [decide_eq_false hi]
      exact decide_eq_false (by omega))
  have hLB : L < 9223372036854775807 := by
    rcases Nat.lt_or_ge L 1000000 with h | h
    · omega
    · exfalso
      have h2 := hL.2.1
      have h0 := hL.2.2
      obtain ⟨K, hK⟩ : ∃ K, K = 8 * (8 * limW) := ⟨_, rfl⟩
      have : (2 : Nat) ^ (K + 2) ≤ 2 ^ L := Nat.pow_le_pow_right (by omega) (by rw [hK, limW_eq]; omega)
      have h3 : i.natAbs ≠ 0 := by intro h; have := h0 h; omega
      have h4 := h2 h3
      have e : lim = 2 ^ K := by
        unfold lim
        rw [hK, show (256 : Nat) = 2 ^ 8 from rfl, ← Nat.pow_mul]
      rw [e] at hl
      rw [Nat.pow_add] at this
      generalize (2 : Nat) ^ K = P at *
      omega
  clear hL hl
  by_cases h1 : L < 32
  · obtain rfl := hLL.out h1
    clear hLL hLG hL32
    go_wp2_with fail
    go_ret
    exact ⟨rfl, rfl⟩
  · by_cases h2 : L = 32
    · subst h2
      obtain rfl := (hL32.out rfl).2
      have C := Lib.hid (H64.out (hL32.out rfl).1)
      clear hLL hLG hL32
      go_wp2_with fail
      refine C.out.mono ?_
      rintro e w' ⟨rfl, rfl⟩
      go_wp2_with fail
      go_ret
      exact ⟨rfl, rfl⟩
    · obtain rfl := hLG.out (by omega)
      clear hLL hLG hL32
      have hne : ((L : Int) == 32) = false := by simp; omega
      go_wp2_with fail
      go_ret
      exact ⟨congrArg (fun z => Ending.returned (.bool z)) (show decide ((L : Int) < 32) = false by simp; omega), rfl⟩

set_option maxHeartbeats 800000 in
theorem makeBigInt_any (p : Option Addr) (i : Int) (w : World) (h : Bg w w.heap.size p i) (hl : i.natAbs < lim) : Calls Tryz.prog 28 #[.pointer p] w (InPost i w) := by
  have hal : ∀ x, Below w.heap.size w (w.alloc x) := fun x => (Below.refl _ _).alloc (Nat.le_refl _) _
  have hB1 : Bg (w.alloc (.cells #[.int .i64 0, .pointer none] 44)) (w.alloc (.cells #[.int .i64 0, .pointer none] 44)).heap.size p i := (h.below (hal _)).more (hal _).size
  have C1 := Lib.hid (isSmall_any p i _ hB1 hl)
  by_cases hs : smallI i = true
  · have hr : -2147483648 ≤ i ∧ i ≤ 2147483647 := by simpa [smallI] using hs
    have C2 := Lib.hid (Int64_any p i _ hB1 (by omega))
    rw [hs] at C1
    clear h hB1 hal hs
    obtain ⟨hr1, hr2⟩ := hr
    go_enter Tryz.func28, Tryz.ntmps28
    go_wp2_with fail
    refine C1.out.mono ?_
    rintro e w' ⟨rfl, rfl⟩
    go_wp2_with fail
    refine C2.out.mono ?_
    rintro e w' ⟨rfl, rfl⟩
    go_wp2
    go_returns
    exact ⟨_, rfl, ⟨i, none, rfl, .inl ⟨rfl, rfl, hr1, hr2⟩⟩, by go_grown⟩
  · have hr : ¬ (-2147483648 ≤ i ∧ i ≤ 2147483647) := by simpa [smallI] using hs
    have hs' : smallI i = false := by simpa using hs
    have C2 := Lib.hid (Set_new p i _ hB1 hl)
    have core : Hid (∀ w2 : World, Below (w.heap.size + 1) (w.alloc (.cells #[.int .i64 0, .pointer none] 44)) w2 → Blk w2 w.heap.size 44 [.int .i64 0, .pointer none] ∧ Below w.heap.size w w2) := Lib.hid (fun w2 hb =>
      ⟨(Blk.new w 44 [.int .i64 0, .pointer none]).below hb (by omega), (hal _).trans (hb.mono (by omega))⟩)
    have fin : Hid (∀ (w2 : World) (q : Option Addr), Bg w2 w2.heap.size q i → Blk w2 w.heap.size 44 [.int .i64 0, .pointer none] → Below w.heap.size w w2 →
        InPost i w (.returned (.agg #[.int .i64 0, .pointer q])) ((((w2.setCell ⟨w.heap.size, 0, none⟩ (.int .i64 0)).setCell ⟨w.heap.size, 1, none⟩ (.pointer q))).alloc (.cells #[.int .i64 0, .pointer q] 44))) := Lib.hid (fun w2 q hq hk hb => by
      have hi : In w2 w2.heap.size (.agg #[.int .i64 0, .pointer q]) i := ⟨0, q, rfl, .inr ⟨rfl, hr, hq⟩⟩
      have := hi.store (w := w) hk (by simp [wv]) hb (Nat.le_refl _)
      exact ⟨_, rfl, (this.1.below ((Below.refl _ _).alloc (Nat.le_refl _) _)).more (by simp), this.2.alloc this.2.size _⟩)
    have hsz : (w.alloc (.cells #[.int .i64 0, .pointer none] 44)).heap.size = w.heap.size + 1 := by simp
    rw [hsz] at C2
    rw [hs'] at C1
    clear h hB1 hal hs hs' hr hsz
    go_enter Tryz.func28, Tryz.ntmps28
    go_wp2_with fail
    refine C1.out.mono ?_
    rintro e w' ⟨rfl, rfl⟩
    go_wp2_with fail
    refine C2.out.mono ?_
    rintro e w2 ⟨rfl, hq, hb⟩
    obtain ⟨hk, hbb⟩ := core.out w2 hb
    have c0 : w2.cell? ⟨w.heap.size, 0, none⟩ = some (.int .i64 0) := hk.cell 0 (by simp)
    have c1 : w2.cell? ⟨w.heap.size, 1, none⟩ = some (.pointer none) := hk.cell 1 (by simp)
    have f0 := hk.free 0
    have f1 := hk.free 1
    have hlt := hk.lt
    have F := Lib.hid (fin.out w2 _ hq hk hbb)
    clear hq hk hbb hb
    go_wp2
    refine bodyPost_ret (v := .agg #[.int .i64 0, .pointer _]) (by simp [results, Tryz.results28, go_sem, c0, c1, hlt]; rfl) rfl ?_
    exact F.out
end Go.Proofs.YtpcnmgldmnncoaaGreatDoor

namespace Go.Proofs.YtpcnmgldmnncoaaGreatDoor
open Go.RowKit Dig
set_option linter.unusedVariables false
set_option linter.unusedSimpArgs false
set_option maxRecDepth 100000

theorem Dig.Bytes.bval {ms : List Nat} {m : Nat} (h : Bytes ms m) : Dig.bval ms = m := Rep.val h

set_option maxHeartbeats 800000 in
theorem SetBytes_any (z : Nat) (m : Nat) (buf : Value) (w : World) (hz : Blk w z 55 [.bool false, .slice none 0 0]) (hs : By w w.heap.size buf m) (hl : m < lim) :
    Calls Tryz.prog 26 #[.pointer (some ⟨z, 0, none⟩), buf] w (PutPost z (m : Int) w) := by
  obtain ⟨ms, hm, hs⟩ := hs
  have hlen := hm.length_le hl
  have z0 : w.cell? ⟨z, 0, none⟩ = some (.bool false) := hz.cell 0 (by simp)
  have z1 : w.cell? ⟨z, 1, none⟩ = some (.slice none 0 0) := hz.cell 1 (by simp)
  have g0 := hz.free 0
  have g1 := hz.free 1
  have hzl := hz.lt
  have C := setBytes_any ms buf w hm.lt hs (by omega)
  rw [hm.bval] at C
  have CORE := Lib.hid C
  have HZ := Lib.hid hz
  clear hs hm hz hlen C
  go_enter Tryz.func26, Tryz.ntmps26
  go_wp2_with fail
  refine CORE.out.mono ?_
  rintro e w1 ⟨v, rfl, ⟨xs, hr, hs1⟩, hb1⟩
  have y0 : w1.cell? ⟨z, 0, none⟩ = some (.bool false) := (hb1.cell (p := ⟨z, 0, none⟩) hzl).trans z0
  have y1 : w1.cell? ⟨z, 1, none⟩ = some (.slice none 0 0) := (hb1.cell (p := ⟨z, 1, none⟩) hzl).trans z1
  have f0 : w1.frozen? ⟨z, 0, none⟩ = false := (hb1.frozen (p := ⟨z, 0, none⟩) hzl).trans g0
  have f1 : w1.frozen? ⟨z, 1, none⟩ = false := (hb1.frozen (p := ⟨z, 1, none⟩) hzl).trans g1
  have F := Lib.hid (put_fin (i := (m : Int)) HZ.out rfl (by simp [wv]) hr hs1 hb1)
  obtain ⟨av, cv, rfl, hcv, hrv⟩ := id hs1
  rw [show decide ((m : Int) < 0) = false by simp] at F
  clear hrv hs1 hb1 hr
  rw [List.length_map] at F
  go_wp2
  go_ret
  exact F.out

set_option maxHeartbeats 800000 in
theorem Neg_same (z : Nat) (i : Int) (w : World) (hx : Bg w w.heap.size (some ⟨z, 0, none⟩) i) :
    Calls Tryz.prog 27 #[.pointer (some ⟨z, 0, none⟩), .pointer (some ⟨z, 0, none⟩)] w (PutPost z (-i) w) := by
  obtain ⟨b, abs, hbb, hb, hk, xs, hr, hs⟩ := hx
  obtain rfl : z = b := by injection hbb with h; injection h
  clear hbb
  have x0 : w.cell? ⟨z, 0, none⟩ = some (.bool (decide (i < 0))) := hk.cell 0 (by simp)
  have x1 : w.cell? ⟨z, 1, none⟩ = some abs := hk.cell 1 (by simp)
  have g0 := hk.free 0
  have g1 := hk.free 1
  obtain ⟨ib, hib, hibs⟩ := infoBg'
  have hpe := run_neq_ptr_same (P := Tryz.prog) (w := w) (a := ⟨z, 0, none⟩) Tryz.underlying40 hib hibs
  have FIN : Hid (PutPost z (-i) w (.returned (.pointer (some ⟨z, 0, none⟩))) (w.setCell ⟨z, 0, none⟩ (.bool (decide (-i < 0))))) := Lib.hid (by
    have k1 := hk.set 0 (.bool (decide (-i < 0)))
    have habs : ∀ m, abs ≠ wv m := by
      obtain ⟨a, c, rfl, _⟩ := hs
      intro m; simp [wv]
    refine ⟨rfl, ⟨z, abs, rfl, by simpa [World.setCell] using hb, k1, xs, by rwa [Int.natAbs_neg], ?_⟩, (Up.refl _ w).set 0 _⟩
    have := hs.far hk (not_wv (by
      intro u hu m
      simp only [List.mem_cons, List.not_mem_nil, or_false] at hu
      rcases hu with rfl | rfl
      · simp [wv]
      · exact habs m) xs) 0 (.bool (decide (-i < 0)))
    simpa [World.setCell] using this)
  have hpos := hr.pos_iff (by omega)
  obtain ⟨a, c, rfl, hc, hrd⟩ := id hs
  simp only [List.length_map] at x1
  by_cases h0 : xs = []
  · have hi : i = 0 := by have := hpos.1 h0; omega
    subst h0
    subst hi
    clear hr hs hk hrd hc hpos hb
    go_enter Tryz.func27, Tryz.ntmps27
    go_wp2
    go_ret
    exact FIN.out
  · have hp : 0 < xs.length := List.length_pos_iff.2 h0
    have hi : i ≠ 0 := fun h => h0 (hpos.2 (by omega))
    by_cases h2 : i < 0
    · rw [decide_eq_true h2] at x0
      rw [decide_eq_false (show ¬ -i < 0 by omega)] at FIN
      clear hr hs hk hrd hc hpos hb h0 hi h2
      go_enter Tryz.func27, Tryz.ntmps27
      go_wp2
      go_ret
      exact FIN.out
    · rw [decide_eq_false h2] at x0
      rw [decide_eq_true (show -i < 0 by omega)] at FIN
      clear hr hs hk hrd hc hpos hb h0 hi h2
      go_enter Tryz.func27, Tryz.ntmps27
      go_wp2
      go_ret
      exact FIN.out

/-- the world in which 'whole' has laid its three variables -/
def wholeW (w : World) (neg : Bool) (mag : Value) : World :=
  ((w.alloc (.cells #[.int .i64 2, .bool neg, mag, .int .u64 0, .string ByteArray.empty, .slice none 0 0] 28)).alloc (.cells #[.int .i64 0, .pointer none] 44)).alloc (.cells #[.bool false, .slice none 0 0] 55)

theorem wholeW_below (w : World) (neg : Bool) (mag : Value) : Below w.heap.size w (wholeW w neg mag) := (((Below.refl _ _).alloc (Nat.le_refl _) _).alloc (by simp) _).alloc (by simp; omega) _
theorem wholeW_big (w : World) (neg : Bool) (mag : Value) : Blk (wholeW w neg mag) (w.heap.size + 1 + 1) 55 [.bool false, .slice none 0 0] := by
  have := Blk.new ((w.alloc (.cells #[.int .i64 2, .bool neg, mag, .int .u64 0, .string ByteArray.empty, .slice none 0 0] 28)).alloc (.cells #[.int .i64 0, .pointer none] 44)) 55 [.bool false, .slice none 0 0]
  simpa [wholeW] using this
theorem wholeW_int (w : World) (neg : Bool) (mag : Value) : Blk (wholeW w neg mag) (w.heap.size + 1) 44 [.int .i64 0, .pointer none] := by
  have := (Blk.new (w.alloc (.cells #[.int .i64 2, .bool neg, mag, .int .u64 0, .string ByteArray.empty, .slice none 0 0] 28)) 44 [.int .i64 0, .pointer none]).alloc (.cells #[.bool false, .slice none 0 0] 55)
  simpa [wholeW] using this
theorem wholeW_val (w : World) (neg : Bool) (mag : Value) : Blk (wholeW w neg mag) w.heap.size 28 [.int .i64 2, .bool neg, mag, .int .u64 0, .string ByteArray.empty, .slice none 0 0] :=
  ((Blk.new w 28 [.int .i64 2, .bool neg, mag, .int .u64 0, .string ByteArray.empty, .slice none 0 0]).alloc _).alloc _
theorem wholeW_size (w : World) (neg : Bool) (mag : Value) : (wholeW w neg mag).heap.size = w.heap.size + 3 := by simp [wholeW]

set_option maxHeartbeats 1600000 in
theorem whole_any (v : Value) (i : Int) (w : World) (hv : Va w w.heap.size v i) (hl : i.natAbs < lim) : Calls Tryz.prog 16 #[v] w (InPost i w) := by
  obtain ⟨mag, rfl, hm⟩ := hv
  obtain ⟨neg, hneg⟩ : ∃ neg, neg = decide (i < 0) := ⟨_, rfl⟩
  rw [← hneg]
  have C1 := Lib.hid (SetBytes_any (w.heap.size + 1 + 1) i.natAbs mag (wholeW w neg mag) (wholeW_big w neg mag) ((hm.below (wholeW_below w neg mag)).more (wholeW_below w neg mag).size) hl)
  have up : Hid (∀ w1, Up (some (w.heap.size + 1 + 1)) (wholeW w neg mag) w1 → Blk w1 w.heap.size 28 [.int .i64 2, .bool neg, mag, .int .u64 0, .string ByteArray.empty, .slice none 0 0] ∧ Blk w1 (w.heap.size + 1) 44 [.int .i64 0, .pointer none] ∧ Below w.heap.size w w1) := Lib.hid (fun w1 hu =>
    ⟨(wholeW_val w neg mag).up hu (by simp; omega), (wholeW_int w neg mag).up hu (by simp), (wholeW_below w neg mag).trans (hu.below (wholeW_below w neg mag).size (fun k hk => by injection hk with hk; omega))⟩)
  have fin : Hid (∀ (w1 w2 : World) (s : Int) (q : Option Addr), Below w.heap.size w w1 → Blk w1 (w.heap.size + 1) 44 [.int .i64 0, .pointer none] → Below w1.heap.size w1 w2 → In w2 w2.heap.size (.agg #[.int .i64 s, .pointer q]) i →
      InPost i w (.returned (.agg #[.int .i64 s, .pointer q])) ((w2.setCell ⟨w.heap.size + 1, 0, none⟩ (.int .i64 s)).setCell ⟨w.heap.size + 1, 1, none⟩ (.pointer q)) ∧ Blk w2 (w.heap.size + 1) 44 [.int .i64 0, .pointer none]) := Lib.hid (fun w1 w2 s q hb hk hb2 hi => by
    have hk2 := hk.below hb2 hk.lt
    have := hi.store (w := w) hk2 (by simp [wv]) (hb.trans (hb2.mono hb.size)) (by omega)
    exact ⟨⟨_, rfl, this.1, this.2⟩, hk2⟩)
  unfold wholeW at C1
  clear hm
  by_cases h2 : i < 0
  · rw [decide_eq_true h2] at hneg
    subst hneg
    have E2 := Lib.hid (show -((i.natAbs : Nat) : Int) = i by omega)
    clear h2
    go_enter Tryz.func16, Tryz.ntmps16
    go_wp2_with fail
    refine C1.out.mono ?_
    rintro e w1 ⟨rfl, hbg, hu⟩
    have HU := Lib.hid hu
    obtain ⟨hv1, hk1, hb1⟩ := up.out w1 hu
    have v1 : w1.cell? ⟨w.heap.size, 1, none⟩ = some (.bool true) := hv1.cell 1 (by simp)
    have C2 := Lib.hid (Neg_same _ _ w1 hbg)
    rw [E2.out] at C2
    clear hbg hu hv1 hk1 hb1
    go_wp2_with fail
    refine C2.out.mono ?_
    rintro e w2 ⟨rfl, hbg, hu⟩
    obtain ⟨_, hk1, hb1⟩ := up.out w2 (HU.out.trans hu)
    have C3 := Lib.hid (makeBigInt_any _ i w2 hbg hl)
    have HK := Lib.hid hk1
    have HB := Lib.hid hb1
    clear hbg hu hk1 hb1
    go_wp2_with fail
    refine C3.out.mono ?_
    rintro e w3 ⟨v, rfl, hi, hb3⟩
    obtain ⟨s, q, rfl⟩ := hi.form
    obtain ⟨f, hk⟩ := fin.out w2 w3 s q HB.out HK.out hb3 hi
    have F := Lib.hid f
    have c0 : w3.cell? ⟨w.heap.size + 1, 0, none⟩ = some (.int .i64 0) := hk.cell 0 (by simp)
    have c1 : w3.cell? ⟨w.heap.size + 1, 1, none⟩ = some (.pointer none) := hk.cell 1 (by simp)
    have f0 := hk.free 0
    have f1 := hk.free 1
    have hlt := hk.lt
    clear hk f hi hb3
    go_wp2
    refine bodyPost_ret (v := .agg #[.int .i64 s, .pointer q]) (by simp [results, Tryz.results16, go_sem, c0, c1, hlt]) rfl ?_
    exact F.out
  · rw [decide_eq_false h2] at hneg
    subst hneg
    have E2 := Lib.hid (show ((i.natAbs : Nat) : Int) = i by omega)
    clear h2
    go_enter Tryz.func16, Tryz.ntmps16
    go_wp2_with fail
    refine C1.out.mono ?_
    rintro e w1 ⟨rfl, hbg, hu⟩
    rw [E2.out] at hbg
    obtain ⟨hv1, hk1, hb1⟩ := up.out w1 hu
    have v1 : w1.cell? ⟨w.heap.size, 1, none⟩ = some (.bool false) := hv1.cell 1 (by simp)
    have C3 := Lib.hid (makeBigInt_any _ i w1 hbg hl)
    have HK := Lib.hid hk1
    have HB := Lib.hid hb1
    clear hbg hu hv1 hk1 hb1
    go_wp2_with fail
    refine C3.out.mono ?_
    rintro e w3 ⟨v, rfl, hi, hb3⟩
    obtain ⟨s, q, rfl⟩ := hi.form
    obtain ⟨f, hk⟩ := fin.out w1 w3 s q HB.out HK.out hb3 hi
    have F := Lib.hid f
    have c0 : w3.cell? ⟨w.heap.size + 1, 0, none⟩ = some (.int .i64 0) := hk.cell 0 (by simp)
    have c1 : w3.cell? ⟨w.heap.size + 1, 1, none⟩ = some (.pointer none) := hk.cell 1 (by simp)
    have f0 := hk.free 0
    have f1 := hk.free 1
    have hlt := hk.lt
    clear hk f hi hb3
    go_wp2
    refine bodyPost_ret (v := .agg #[.int .i64 s, .pointer q]) (by simp [results, Tryz.results16, go_sem, c0, c1, hlt]) rfl ?_
    exact F.out
end Go.Proofs.YtpcnmgldmnncoaaGreatDoor

namespace Go.Proofs.YtpcnmgldmnncoaaGreatDoor
open Go.RowKit Dig
set_option linter.unusedVariables false
set_option linter.unusedSimpArgs false
set_option maxRecDepth 100000

/-- what a Val of the kind Int becomes when it is laid into a result's variable -/
theorem VaPost.parts {i : Int} {w w' : World} {e : Ending} (h : VaPost i w e w') : ∃ (neg : Bool) (a : Option Addr) (k c : Nat), e = .returned (.agg #[.int .i64 2, .bool neg, .slice a k c, .int .u64 0, .string ByteArray.empty, .slice none 0 0]) ∧
    neg = decide (i < 0) ∧ By w' w'.heap.size (.slice a k c) i.natAbs ∧ Below w.heap.size w w' := by
  obtain ⟨v, rfl, ⟨mag, rfl, ms, hm, hs⟩, hb⟩ := h
  obtain ⟨a, c, rfl, _⟩ := id hs
  exact ⟨_, a, _, c, rfl, rfl, ⟨ms, hm, hs⟩, hb⟩
theorem Va.parts {w : World} {B : Nat} {v : Value} {i : Int} (h : Va w B v i) : ∃ (neg : Bool) (a : Option Addr) (k c : Nat), v = .agg #[.int .i64 2, .bool neg, .slice a k c, .int .u64 0, .string ByteArray.empty, .slice none 0 0] := by
  obtain ⟨mag, rfl, ms, _, hs⟩ := h
  obtain ⟨a, c, rfl, _⟩ := id hs
  exact ⟨_, a, _, c, rfl⟩
/-- which of the two operands are integers of the package by now -/
def Sw (W0 : World) (h : Nat) (i j : Int) (o1 o2 : Option Value) (W : World) : Prop :=
  Below h W0 W ∧ h ≤ W.heap.size ∧ (∀ v, o1 = some v → In W W.heap.size v i) ∧ (∀ v, o2 = some v → In W W.heap.size v j)
section
variable {W0 W : World} {h : Nat} {i j : Int} {o1 o2 : Option Value}
theorem Sw.below (s : Sw W0 h i j o1 o2 W) : Below h W0 W := s.1
theorem Sw.drew (s : Sw W0 h i j o1 o2 W) : Sw W0 h i j o1 o2 W.drew := ⟨s.1.drew, s.2.1, s.2.2.1, s.2.2.2⟩
theorem Sw.start (hh : h ≤ W.heap.size) (hb : Below h W0 W) : Sw W0 h i j none none W := ⟨hb, hh, by simp, by simp⟩
theorem Sw.whole1 {v : Value} {B : Nat} {w : World} (s : Sw W0 h i j none o2 W) (hv : Va w B v i) (hw : Below B w W0) (hB : B ≤ h) (hl : i.natAbs < lim) :
    Calls Tryz.prog 16 #[v] W fun e w' => ∃ t q, e = .returned (.agg #[.int .i64 t, .pointer q]) ∧ Sw W0 h i j (some (.agg #[.int .i64 t, .pointer q])) o2 w' := by
  obtain ⟨h1, h2, h3, h4⟩ := s
  refine (whole_any v i W ((hv.below (hw.trans (h1.mono hB))).more (Nat.le_trans hB h2)) hl).mono ?_
  rintro e w' ⟨v, rfl, hin, hb⟩
  obtain ⟨t, q, rfl⟩ := hin.form
  exact ⟨t, q, rfl, h1.trans (hb.mono h2), Nat.le_trans h2 hb.size, (fun v hv => by injection hv with hv; subst hv; exact hin), fun v hv => ((h4 v hv).below hb).more hb.size⟩
theorem Sw.whole2 {v : Value} {B : Nat} {w : World} (s : Sw W0 h i j o1 none W) (hv : Va w B v j) (hw : Below B w W0) (hB : B ≤ h) (hl : j.natAbs < lim) :
    Calls Tryz.prog 16 #[v] W fun e w' => ∃ t q, e = .returned (.agg #[.int .i64 t, .pointer q]) ∧ Sw W0 h i j o1 (some (.agg #[.int .i64 t, .pointer q])) w' := by
  obtain ⟨h1, h2, h3, h4⟩ := s
  refine (whole_any v j W ((hv.below (hw.trans (h1.mono hB))).more (Nat.le_trans hB h2)) hl).mono ?_
  rintro e w' ⟨v, rfl, hin, hb⟩
  obtain ⟨t, q, rfl⟩ := hin.form
  exact ⟨t, q, rfl, h1.trans (hb.mono h2), Nat.le_trans h2 hb.size, fun v hv => ((h3 v hv).below hb).more hb.size, (fun v hv => by injection hv with hv; subst hv; exact hin)⟩
end
/-- the world in which the walk of such a function reckons -/
def valW (w : World) (L1 L2 : List Value) : World := ((w.alloc (.cells L1.toArray 28)).alloc (.cells L2.toArray 28)).alloc (.cells zeroVal.toArray 28)
theorem valW_facts (w : World) (L1 L2 : List Value) : (valW w L1 L2).heap.size = w.heap.size + 3 ∧ Below w.heap.size w (valW w L1 L2) ∧ Blk (valW w L1 L2) w.heap.size 28 L1 ∧
    Blk (valW w L1 L2) (w.heap.size + 1) 28 L2 ∧ Blk (valW w L1 L2) (w.heap.size + 1 + 1) 28 zeroVal := by
  refine ⟨by simp [valW], (((Below.refl _ _).alloc (Nat.le_refl _) _).alloc (by simp) _).alloc (by simp; omega) _, ((Blk.new w _ L1).alloc _).alloc _, ?_, ?_⟩
  · have := (Blk.new (w.alloc (.cells L1.toArray 28)) 28 L2).alloc (.cells zeroVal.toArray 28)
    simpa [valW] using this
  · have := Blk.new ((w.alloc (.cells L1.toArray 28)).alloc (.cells L2.toArray 28)) 28 zeroVal
    simpa [valW] using this
theorem val_cells {w : World} {b : Nat} {neg : Bool} {a : Option Addr} {k c : Nat} (h : Blk w b 28 [.int .i64 2, .bool neg, .slice a k c, .int .u64 0, .string ByteArray.empty, .slice none 0 0]) :
    w.cell? ⟨b, 0, none⟩ = some (.int .i64 2) ∧ w.cell? ⟨b, 1, none⟩ = some (.bool neg) ∧ w.cell? ⟨b, 2, none⟩ = some (.slice a k c) ∧ w.cell? ⟨b, 3, none⟩ = some (.int .u64 0) ∧ w.cell? ⟨b, 4, none⟩ = some (.string ByteArray.empty) ∧ w.cell? ⟨b, 5, none⟩ = some (.slice none 0 0) :=
  ⟨h.cell 0 (by simp), h.cell 1 (by simp), h.cell 2 (by simp), h.cell 3 (by simp), h.cell 4 (by simp), h.cell 5 (by simp)⟩
theorem zero_cells {w : World} {b : Nat} (h : Blk w b 28 zeroVal) :
    (w.cell? ⟨b, 0, none⟩ = some (.int .i64 0) ∧ w.cell? ⟨b, 1, none⟩ = some (.bool false) ∧ w.cell? ⟨b, 2, none⟩ = some (.slice none 0 0) ∧ w.cell? ⟨b, 3, none⟩ = some (.int .u64 0) ∧ w.cell? ⟨b, 4, none⟩ = some (.string ByteArray.empty) ∧ w.cell? ⟨b, 5, none⟩ = some (.slice none 0 0)) ∧
    w.frozen? ⟨b, 0, none⟩ = false ∧ w.frozen? ⟨b, 1, none⟩ = false ∧ w.frozen? ⟨b, 2, none⟩ = false ∧ w.frozen? ⟨b, 3, none⟩ = false ∧ w.frozen? ⟨b, 4, none⟩ = false ∧ w.frozen? ⟨b, 5, none⟩ = false :=
  ⟨⟨h.cell 0 (by simp [zeroVal]), h.cell 1 (by simp [zeroVal]), h.cell 2 (by simp [zeroVal]), h.cell 3 (by simp [zeroVal]), h.cell 4 (by simp [zeroVal]), h.cell 5 (by simp [zeroVal])⟩, h.free 0, h.free 1, h.free 2, h.free 3, h.free 4, h.free 5⟩
/-- six stores into another block -/
theorem Blk.far6 {w : World} {b z : Nat} {t : TypeId} {L : List Value} (h : Blk w b t L) (hz : b ≠ z) (v0 v1 v2 v3 v4 v5 : Value) : Blk ((((((w.setCell ⟨z, 0, none⟩ v0).setCell ⟨z, 1, none⟩ v1).setCell ⟨z, 2, none⟩ v2).setCell ⟨z, 3, none⟩ v3).setCell ⟨z, 4, none⟩ v4).setCell ⟨z, 5, none⟩ v5) b t L :=
  (((((h.far (p := ⟨z, 0, none⟩) hz v0).far (p := ⟨z, 1, none⟩) hz v1).far (p := ⟨z, 2, none⟩) hz v2).far (p := ⟨z, 3, none⟩) hz v3).far (p := ⟨z, 4, none⟩) hz v4).far (p := ⟨z, 5, none⟩) hz v5
end Go.Proofs.YtpcnmgldmnncoaaGreatDoor
