/- math/bits.Len64 (the walk's ways are those of the shelf's text, turned), Len; nat.bitLen, (*Int).BitLen: how many bits. -/
import Derived.Test.YtbfgjaammmpcdaaGreatDoorSetBytes
import Derived.Laws.Bits64b
import Derived.Lib.Strings
import Derived.Lib.Slices
import Derived.Lib.Small
import Derived.Lib.Walk
import Derived.Lib.BitFns
import Derived.Deep.Light
namespace Go.Proofs.YtbfgjaammmpcdaaGreatDoor
open Go.RowKit Dig
set_option linter.unusedVariables false
set_option linter.unusedSimpArgs false
set_option maxRecDepth 100000

theorem len8tab_size : (Lib.len8tab.size : Int) = 256 := by
  have : Lib.len8tab.size = 256 := by decide
  omega
theorem wrap_add (k a b : Nat) (hk : k ≤ 56) (ha : a ≤ 8) (hb : b = k + a) : RowKit.wrap64 ((k : Int) + RowKit.wrap64 (a : Int)) = (b : Int) := by
  unfold RowKit.wrap64
  omega
theorem wrap_wrap (a : Nat) (ha : a ≤ 8) : RowKit.wrap64 (RowKit.wrap64 (a : Int)) = (a : Int) := by
  unfold RowKit.wrap64
  omega
theorem wrap_one (a : Nat) (ha : a ≤ 8) : RowKit.wrap64 (a : Int) = (a : Int) := by
  unfold RowKit.wrap64
  omega
theorem len8_get (y : Int) (h : y.toNat < Lib.len8tab.size) : ((Lib.len8tab[y.toNat]'h).toNat : Int) = Lib.len8 y := by
  unfold Lib.len8
  rw [getElem?_pos Lib.len8tab y.toNat h]
  rfl

set_option maxHeartbeats 4000000 in
theorem bits_Len64 (x : Int) (w : World) (h0 : 0 ≤ x) (h1 : x ≤ 18446744073709551615) :
    Calls Tryz.prog 137 #[.int .u64 x] w fun e w' => e = .returned (.int .i64 (Lib.bitLen x.toNat)) ∧ w' = w := by
  go_enter Tryz.func137, Tryz.ntmps137
  go_wp2
  all_goals first
    | (go_ret; refine ⟨congrArg Ending.returned (congrArg (Value.int IntKind.i64) ?_), rfl⟩; go_light)
    | (exfalso
       go_light
       have hs := len8tab_size
       omega)
  all_goals first
    | (rw [len8_get (x / 4294967296 / 65536 / 256) _, Lib.len8_of (x / 4294967296 / 65536 / 256) (by omega) (by omega)]
       have e : (x / 4294967296 / 65536 / 256).toNat = x.toNat / 72057594037927936 := by omega
       have l := Lib.bitLen_le8' (x / 4294967296 / 65536 / 256) (by omega) (by omega)
       have s := Lib.bitLen_shift56 x.toNat (by omega) (by omega)
       rw [e] at l ⊢
       exact wrap_add 56 _ _ (by decide) l s)
    | (rw [len8_get (x / 4294967296 / 65536) _, Lib.len8_of (x / 4294967296 / 65536) (by omega) (by omega)]
       have e : (x / 4294967296 / 65536).toNat = x.toNat / 281474976710656 := by omega
       have l := Lib.bitLen_le8' (x / 4294967296 / 65536) (by omega) (by omega)
       have s := Lib.bitLen_shift48 x.toNat (by omega) (by omega)
       rw [e] at l ⊢
       exact wrap_add 48 _ _ (by decide) l s)
    | (rw [len8_get (x / 4294967296 / 256) _, Lib.len8_of (x / 4294967296 / 256) (by omega) (by omega)]
       have e : (x / 4294967296 / 256).toNat = x.toNat / 1099511627776 := by omega
       have l := Lib.bitLen_le8' (x / 4294967296 / 256) (by omega) (by omega)
       have s := Lib.bitLen_shift40 x.toNat (by omega) (by omega)
       rw [e] at l ⊢
       exact wrap_add 40 _ _ (by decide) l s)
    | (rw [len8_get (x / 4294967296) _, Lib.len8_of (x / 4294967296) (by omega) (by omega)]
       have e : (x / 4294967296).toNat = x.toNat / 4294967296 := by omega
       have l := Lib.bitLen_le8' (x / 4294967296) (by omega) (by omega)
       have s := Lib.bitLen_shift32 x.toNat (by omega) (by omega)
       rw [e] at l ⊢
       exact wrap_add 32 _ _ (by decide) l s)
    | (rw [len8_get (x / 65536 / 256) _, Lib.len8_of (x / 65536 / 256) (by omega) (by omega)]
       have e : (x / 65536 / 256).toNat = x.toNat / 16777216 := by omega
       have l := Lib.bitLen_le8' (x / 65536 / 256) (by omega) (by omega)
       have s := Lib.bitLen_shift24 x.toNat (by omega) (by omega)
       rw [e] at l ⊢
       exact wrap_add 24 _ _ (by decide) l s)
    | (rw [len8_get (x / 65536) _, Lib.len8_of (x / 65536) (by omega) (by omega)]
       have e : (x / 65536).toNat = x.toNat / 65536 := by omega
       have l := Lib.bitLen_le8' (x / 65536) (by omega) (by omega)
       have s := Lib.bitLen_shift16 x.toNat (by omega) (by omega)
       rw [e] at l ⊢
       exact wrap_add 16 _ _ (by decide) l s)
    | (rw [len8_get (x / 256) _, Lib.len8_of (x / 256) (by omega) (by omega)]
       have e : (x / 256).toNat = x.toNat / 256 := by omega
       have l := Lib.bitLen_le8' (x / 256) (by omega) (by omega)
       have s := Lib.bitLen_shift8 x.toNat (by omega) (by omega)
       rw [e] at l ⊢
       exact wrap_add 8 _ _ (by decide) l s)
    | (rw [len8_get (x) _, Lib.len8_of (x) (by omega) (by omega)]
       have e : (x).toNat = x.toNat := by omega
       have l := Lib.bitLen_le8' (x) (by omega) (by omega)
       rw [e] at l ⊢
       first | exact wrap_wrap _ l | exact wrap_add 0 _ _ (by decide) l (by omega) | exact wrap_one _ l)

theorem bits_Len (x : Int) (w : World) (h0 : 0 ≤ x) (h1 : x ≤ 18446744073709551615) : Calls Tryz.prog 112 #[.int .u64 x] w fun e w' => e = .returned (.int .i64 (Lib.bitLen x.toNat)) ∧ w' = w := by
  go_enter Tryz.func112, Tryz.ntmps112
  go_wp2_with fail
  refine (bits_Len64 x w h0 h1).mono ?_
  rintro e w' ⟨rfl, rfl⟩
  go_wp2_with fail
  go_ret
  exact ⟨rfl, rfl⟩

theorem bitLenAux_spec : ∀ (f x : Nat), x < 2 ^ f → x < 2 ^ Lib.bitLenAux f x ∧ (x ≠ 0 → 2 ^ Lib.bitLenAux f x ≤ 2 * x)
  | 0, x, h => by
    have : x = 0 := by simpa using h
    subst this; simp [Lib.bitLenAux]
  | f + 1, x, h => by
    by_cases h0 : x = 0
    · subst h0; simp [Lib.bitLenAux]
    · have ih := bitLenAux_spec f (x / 2) (by rw [Nat.pow_succ] at h; omega)
      simp only [Lib.bitLenAux, if_neg h0]
      rw [Nat.add_comm 1, Nat.pow_succ]
      refine ⟨by omega, fun _ => ?_⟩
      by_cases h1 : x / 2 = 0
      · have e : Lib.bitLenAux f 0 = 0 := by cases f <;> simp [Lib.bitLenAux]
        rw [h1, e]; omega
      · have := ih.2 h1; omega

/-- how long a number is in bits: told by what it says of its size -/
def IsLen (m L : Nat) : Prop := m < 2 ^ L ∧ (m ≠ 0 → 2 ^ L ≤ 2 * m) ∧ (m = 0 → L = 0)
theorem bitLen_is (x : Nat) (h : x < 18446744073709551616) : IsLen x (Lib.bitLen x) := by
  have := bitLenAux_spec 64 x h
  exact ⟨this.1, this.2, fun e => by subst e; rfl⟩

/-- a word with all that is below its first one set: neither longer nor shorter -/
def or1 (d : Int) (t : Int) : Int := bits BinOp.or IntKind.u64 t (t / d)
def smear (x : Int) : Int := bits BinOp.or IntKind.u64 (or1 65536 (or1 256 (or1 16 (or1 4 (or1 2 x))))) (or1 65536 (or1 256 (or1 16 (or1 4 (or1 2 x)))) / 65536 / 65536)
def Sme (x : Nat) (t : Int) : Prop := ∃ y : Nat, t = y ∧ y < 18446744073709551616 ∧ x ≤ y ∧ ∀ L, x < 2 ^ L → y < 2 ^ L
theorem Sme.or {x : Nat} {t u : Int} (h : Sme x t) (d : Nat) (hd : 0 < d) (hu : u = t / (d : Int)) : Sme x (bits BinOp.or IntKind.u64 t u) := by
  obtain ⟨y, rfl, h1, h2, h3⟩ := h
  have hu' : u = ((y / d : Nat) : Int) := by rw [hu]; simp
  have hy : y / d ≤ y := Nat.div_le_self _ _
  rw [hu', bits_or_u64_nat y (y / d) h1 (by omega)]
  refine ⟨_, rfl, Nat.or_lt_two_pow (n := 64) h1 (by omega), Nat.le_trans h2 Nat.left_le_or, fun L hL => ?_⟩
  have := h3 L hL
  exact Nat.or_lt_two_pow this (by omega)
theorem smear_sme (x : Nat) (h : x < 18446744073709551616) : Sme x (smear x) := by
  have h0 : Sme x (x : Int) := ⟨x, rfl, h, Nat.le_refl _, fun _ h => h⟩
  have h1 := h0.or 2 (by omega) rfl
  have h2 := h1.or 4 (by omega) rfl
  have h3 := h2.or 16 (by omega) rfl
  have h4 := h3.or 256 (by omega) rfl
  have h5 := h4.or 65536 (by omega) rfl
  exact h5.or 4294967296 (by omega) (Int.ediv_ediv_of_nonneg (by decide))

def BLPost (m : Nat) (w : World) (e : Ending) (w' : World) : Prop := ∃ L : Nat, e = .returned (.int .i64 L) ∧ IsLen m L ∧ w = w'

theorem IsLen.top {low x k L : Nat} (h : IsLen x L) (hx : x ≠ 0) (hl : low < 2 ^ (64 * k)) : IsLen (low + 2 ^ (64 * k) * x) (64 * k + L) := by
  obtain ⟨h1, h2, h3⟩ := h
  have h2 := h2 hx
  have hp := Nat.two_pow_pos (64 * k)
  unfold IsLen
  rw [Nat.pow_add]
  generalize 2 ^ (64 * k) = P at *
  generalize 2 ^ L = Q at *
  have e1 : P * (x + 1) ≤ P * Q := Nat.mul_le_mul_left P h1
  have e2 : P * Q ≤ P * (2 * x) := Nat.mul_le_mul_left P h2
  rw [Nat.mul_add] at e1
  have e3 : P * (2 * x) = 2 * (P * x) := by rw [Nat.mul_left_comm]
  have e4 : P * 1 ≤ P * x := Nat.mul_le_mul_left P (by omega)
  refine ⟨by omega, fun _ => by omega, fun h0 => by omega⟩

theorem nval_last {B : Nat} (xs : List Nat) (h : xs ≠ []) : nval B xs = nval B (xs.take (xs.length - 1)) + B ^ (xs.length - 1) * xs.getD (xs.length - 1) 0 := by
  have hp := List.length_pos_iff.2 h
  have := nval_take_succ B xs (xs.length - 1) (by omega)
  rwa [show xs.length - 1 + 1 = xs.length by omega, List.take_length] at this
theorem Nrm.last {xs : List Nat} (h : Nrm xs) (hne : xs ≠ []) : xs.getD (xs.length - 1) 0 ≠ 0 := by
  have hp := List.length_pos_iff.2 hne
  unfold Nrm at h
  rw [List.getLast?_eq_getElem?] at h
  rw [List.getD_eq_getElem?_getD]
  rw [List.getElem?_eq_getElem (by omega)] at h ⊢
  intro h0; apply h; simpa using h0

set_option maxHeartbeats 1600000 in
theorem bitLen_any (m : Nat) (v : Value) (w : World) (hs : Nt w w.heap.size v m) (hm : m < lim) :
    Calls Tryz.prog 87 #[v] w (BLPost m w) := by
  obtain ⟨xs, hrep, hs⟩ := hs
  have hl := hrep.words_le hm
  obtain ⟨a, c, rfl, hc, hr⟩ := hs
  simp only [List.length_map, ne_eq, List.map_eq_nil_iff] at hc hr ⊢
  by_cases h0 : xs = []
  · subst h0
    have FIN : Hid (IsLen m 0) := by
      have : m = 0 := ((hrep.pos_iff (by omega)).1 rfl)
      subst this
      exact ⟨by simp, by simp, by simp⟩
    clear hr hrep hm
    go_enter Tryz.func87, Tryz.ntmps87
    go_wp2_with fail
    go_ret
    exact ⟨0, rfl, FIN.out, rfl⟩
  · obtain ⟨b, o, rfl, hb, hrd⟩ := hr h0
    have hp : 0 < xs.length := List.length_pos_iff.2 h0
    have hcell := hrd (xs.length - 1) (by simp; omega)
    rw [getD_map_wv xs _ (by omega)] at hcell
    have hxx : xs.getD (xs.length - 1) 0 < 18446744073709551616 := hrep.lt _ (by rw [List.getD_eq_getElem?_getD, List.getElem?_eq_getElem (by omega)]; simp)
    have hnz := Nrm.last hrep.nrm h0
    have e1 := nval_last (B := 18446744073709551616) xs h0
    rw [hrep.val] at e1
    have hlow := nval_lt 18446744073709551616 (xs.take (xs.length - 1)) (fun x hx => hrep.lt x (List.mem_of_mem_take hx))
    rw [List.length_take, Nat.min_eq_left (by omega)] at hlow
    obtain ⟨n, hn⟩ : ∃ n, n = xs.length := ⟨_, rfl⟩
    rw [← hn] at hcell hl hc hp hxx hnz e1 hlow ⊢
    have FIN : Hid (∀ T : Int, Sme (xs.getD (n - 1) 0) T → T ≤ 18446744073709551615 ∧ 0 ≤ T ∧ IsLen m (64 * (n - 1) + Lib.bitLen T.toNat) ∧ Lib.bitLen T.toNat ≤ 64) := Lib.hid (by
      rintro T ⟨y, rfl, hy, hxy, hup⟩
      have hb := bitLen_is y hy
      rw [Int.toNat_natCast]
      have hy0 : y ≠ 0 := by omega
      have h64 : Lib.bitLen y ≤ 64 := by
        have := hb.2.1 hy0
        rcases Nat.lt_or_ge 64 (Lib.bitLen y) with hlt | hge
        · have : (2 : Nat) ^ 65 ≤ 2 ^ Lib.bitLen y := Nat.pow_le_pow_right (by omega) hlt
          omega
        · exact hge
      refine ⟨by omega, by omega, ?_, h64⟩
      have hx : IsLen (xs.getD (n - 1) 0) (Lib.bitLen y) := by
        refine ⟨Nat.lt_of_le_of_lt hxy hb.1, fun _ => ?_, fun h => absurd h hnz⟩
        have h1 := hb.2.1 hy0
        rcases Nat.lt_or_ge (2 * xs.getD (n - 1) 0) (2 ^ Lib.bitLen y) with hlt | hge
        · exfalso
          have hLpos : Lib.bitLen y ≠ 0 := by
            intro h; have := hb.1; rw [h] at this; omega
          obtain ⟨j, hj⟩ : ∃ j, Lib.bitLen y = j + 1 := ⟨Lib.bitLen y - 1, by omega⟩
          rw [hj, Nat.pow_succ] at hlt h1
          have := hup j (by omega)
          omega
        · exact hge
      rw [e1]
      have ep : (18446744073709551616 : Nat) ^ (n - 1) = 2 ^ (64 * (n - 1)) := by rw [Nat.pow_mul]
      rw [ep] at hlow ⊢
      exact hx.top hnz hlow)
    generalize xs.getD (n - 1) 0 = x at *
    have SM := Lib.hid (smear_sme x hxx)
    clear hr hrd hn h0 hlow e1 hnz hrep hm
    go_enter Tryz.func87, Tryz.ntmps87
    go_wp2_with fail
    obtain ⟨T, hT⟩ : ∃ T, T = smear x := ⟨_, rfl⟩
    have HT := Lib.hid (hT ▸ FIN.out _ SM.out)
    change Calls _ _ #[.int .u64 (smear x)] _ _
    rw [← hT]
    refine (bits_Len T w HT.out.2.1 HT.out.1).mono ?_
    rintro e w' ⟨rfl, rfl⟩
    have h64 := HT.out.2.2.2
    have HF := Lib.hid HT.out.2.2.1
    generalize Lib.bitLen T.toNat = L at *
    clear HT SM hT FIN
    go_wp2_with fail
    go_ret
    exact ⟨64 * (n - 1) + L, congrArg (fun z => Ending.returned (.int .i64 z)) (by go_num), HF.out, rfl⟩
end Go.Proofs.YtbfgjaammmpcdaaGreatDoor
