/- spec.Unquote: what reads as a text is read as it. -/
import Derived.Test.YtoghnefgflkpdaaDoorUnq3
namespace Go.Proofs.YtoghnefgflkpdaaDoor
open Go.RowKit
set_option linter.unusedVariables false
set_option linter.unusedSimpArgs false
set_option maxRecDepth 1000000

/-- an escape, wherever it stands -/
theorem data_at (s : ByteArray) (e l : List UInt8) (h : s.data.toList = e ++ l) (i : Nat) (hi : i < s.size) (hl : i < e.length) : s[i]'hi = e.getD i 0 := by
  rw [getElem_getD, h, List.getD_eq_getElem?_getD, List.getElem?_append_left hl, List.getD_eq_getElem?_getD]
theorem ub_hex_get (n D i : Nat) (h : i < D) : (((ub (Lib.hexDigits n D)).getD i 0).toNat : Int) = Lib.hexDigit (n / 16 ^ (D - 1 - i) % 16) := by
  induction D generalizing i with
  | zero => omega
  | succ D ih =>
    have bd := hexDigit_bd
    cases i with
    | zero =>
      have h16 : n / 16 ^ D % 16 < 16 := Nat.mod_lt _ (by omega)
      have hb := bd _ h16
      simp only [Lib.hexDigits, ub, List.map_cons, List.getD_cons_zero, Nat.add_sub_cancel, Nat.sub_zero]
      rw [Nat.toUInt8, UInt8.toNat_ofNat']
      omega
    | succ i =>
      have := ih i (by omega)
      simp only [Lib.hexDigits, ub, List.map_cons, List.getD_cons_succ] at this ⊢
      rw [show D + 1 - 1 - (i + 1) = D - 1 - i by omega]
      exact this
theorem ub_hex_length (n D : Nat) : (ub (Lib.hexDigits n D)).length = D := by simp [ub, hexDigits_length]
theorem Esc.length {b : Bool} {e p : List UInt8} (h : Esc b e p) : 2 ≤ e.length ∧ e.length ≤ 10 ∧ p.length ≤ 4 ∧ e.getD 0 0 = 92 := by
  cases h with
  | named k hk => simp
  | x n h hb => simp [ub_hex_length]
  | u n h hv => have := (Lib.encodeRuneZ_length (n : Int)).2; simp [ub_hex_length, Lib.encodeRune]; omega
  | uu n h h2 => have := (Lib.encodeRuneZ_length (n : Int)).2; simp [ub_hex_length, Lib.encodeRune]; omega
theorem escape_any (b : Bool) (e p l : List UInt8) (s : ByteArray) (w : World) (he : Esc b e p) (hd : s.data.toList = e ++ l) (hs : s.size ≤ 140737488355328) :
    Calls Tryd.prog 7 #[.string s, .bool b] w (EscOut p e.length w) := by
  have hsz : s.size = e.length + l.length := by rw [Lib.size_eq, hd, List.length_append]
  have hel := he.length
  have at1 := data_at s e l hd 1 (by omega) (by omega)
  cases he with
  | named k hk =>
    refine escape_named b k (escN.getD k 0).toNat s w hk (by omega) hs ?_ rfl
    rw [at1]; rfl
  | x n h hb =>
    have e1 : (92 :: 120 :: ub (Lib.hexDigits n 2) : List UInt8).length = 4 := by simp [ub_hex_length]
    rw [e1] at hsz ⊢
    refine escape_x b n 120 s w h hb (by omega) hs (by rw [at1]; rfl) rfl (fun i hi h2 h3 => ?_)
    rw [data_at s _ l hd i hi (by rw [e1]; omega)]
    obtain ⟨j, rfl⟩ : ∃ j, i = j + 2 := ⟨i - 2, by omega⟩
    have := ub_hex_get n 2 j (by omega)
    rw [show 3 - (j + 2) = 2 - 1 - j by omega]
    exact this
  | u n h hv =>
    have e1 : (92 :: 117 :: ub (Lib.hexDigits n 4) : List UInt8).length = 6 := by simp [ub_hex_length]
    rw [e1] at hsz ⊢
    refine escape_u b n 117 s w h hv (by omega) hs (by rw [at1]; rfl) rfl (fun i hi h2 h3 => ?_)
    rw [data_at s _ l hd i hi (by rw [e1]; omega)]
    obtain ⟨j, rfl⟩ : ∃ j, i = j + 2 := ⟨i - 2, by omega⟩
    have := ub_hex_get n 4 j (by omega)
    rw [show 5 - (j + 2) = 4 - 1 - j by omega]
    exact this
  | uu n h h2 =>
    have e1 : (92 :: 85 :: ub (Lib.hexDigits n 8) : List UInt8).length = 10 := by simp [ub_hex_length]
    rw [e1] at hsz ⊢
    refine escape_uu b n 85 s w h h2 (by omega) hs (by rw [at1]; rfl) rfl (fun i hi h2 h3 => ?_)
    rw [data_at s _ l hd i hi (by rw [e1]; omega)]
    obtain ⟨j, rfl⟩ : ∃ j, i = j + 2 := ⟨i - 2, by omega⟩
    have := ub_hex_get n 8 j (by omega)
    rw [show 9 - (j + 2) = 8 - 1 - j by omega]
    exact this
end Go.Proofs.YtoghnefgflkpdaaDoor
