/- nat.norm, the reading of words out of bytes, nat.setBytes, (*Int).SetBytes. -/
import Derived.Test.YtoojgjhfmmohbaaGreatMNew
import Derived.Lib.EndianBits
namespace Go.Proofs.YtoojgjhfmmohbaaGreat
open Go.RowKit Dig
set_option linter.unusedVariables false
set_option linter.unusedSimpArgs false
set_option maxRecDepth 100000
def NormPost (a : Option Addr) (n c : Nat) (w : World) (e : Ending) (w' : World) : Prop := e = .returned (.slice a n c) ∧ w = w'
set_option maxHeartbeats 400000 in
theorem norm_any (xs : List Nat) (a : Option Addr) (c B : Nat) (w : World) (hs : Sl w B (.slice a xs.length c) (xs.map wv)) (hxs : ∀ x ∈ xs, x < 18446744073709551616) (hl : xs.length ≤ 1099511627776) :
   Calls Tryz.prog 66 #[.slice a xs.length c] w (NormPost a (strip xs).length c w) := by
 obtain ⟨a', c', hv, hc, hr⟩ := hs
 simp only [List.length_map, Value.slice.injEq, true_and] at hv
 obtain ⟨rfl, rfl⟩ := hv
 simp only [List.length_map, ne_eq, List.map_eq_nil_iff] at hc hr
 have HR := Li hr
 have HX := Li hxs
 clear hr hxs
 go_enter Tryz.func66, Tryz.ntmps66
 go_wp2
 go_loop [3] (fun i => ∃ k : Nat, k ≤ xs.length ∧ i = .int .i64 k ∧ Hid (∀ j, k ≤ j → j < xs.length → xs.getD j 0 = 0)) (fun i => (intOf i).toNat)
 case atStart => exact ⟨xs.length, Nat.le_refl _, rfl, Li (fun j h1 h2 => absurd h1 (by omega))⟩
 case round =>
   obtain ⟨k, hk, rfl, hz⟩ := hrel
   have fin : (k = 0 ∨ xs.getD (k - 1) 0 ≠ 0) → NormPost a (strip xs).length c w (.returned (.slice a k c)) w := fun hn => by
     rw [strip_of xs k hk hz.out hn, List.length_take, Nat.min_eq_left hk]; exact ⟨rfl, rfl⟩
   have FIN := Li fin
   clear fin
   by_cases h1 : 0 < k
   · obtain ⟨b, o, rfl, hb, hrd⟩ := HR.out (by intro h0; subst h0; simp at hk; omega)
     have hcell := hrd (k - 1) (by simp; omega)
     rw [getD_map_wv xs (k - 1) (by omega)] at hcell
     have hx : xs.getD (k - 1) 0 < 18446744073709551616 := HX.out _ (by rw [List.getD_eq_getElem?_getD, List.getElem?_eq_getElem (by omega)]; simp)
     clear hrd
     by_cases h0 : xs.getD (k - 1) 0 = 0
     · have H0 := Li h0
       rw [h0] at hcell
       clear h0 hx
       go_wp2
       go_round
       case rel => exact ⟨k - 1, by omega, by go_num, Li (fun j h1 h2 => by
         by_cases e : j = k - 1
         · subst e; exact H0.out
         · exact hz.out j (by omega) h2)⟩
       case measure => simp [intOf]; omega
     · have h2 : (((xs.getD (k - 1) 0 : Nat) : Int) == 0) = false := by simpa using h0
       have F := Li (FIN.out (.inr h0))
       clear h0
       generalize xs.getD (k - 1) 0 = x at *
       go_wp2
       go_ret
       exact F.out
   · obtain rfl : k = 0 := by omega
     have F := Li (FIN.out (.inl rfl))
     go_wp2
     go_ret
     exact F.out
theorem Sl.head {w : World} {B : Nat} {a : Option Addr} {n c : Nat} {vs : List Value} (h : Sl w B (.slice a n c) vs) (k : Nat) (hk : k ≤ vs.length) : Sl w B (.slice a k c) (vs.take k) := by
 obtain ⟨a', c', hv, hc, hr⟩ := h
 simp only [Value.slice.injEq] at hv
 obtain ⟨rfl, rfl, rfl⟩ := hv
 refine ⟨a, c, by rw [List.length_take, Nat.min_eq_left hk], by rw [List.length_take]; omega, fun hne => ?_⟩
 obtain ⟨b, o, ha, hb, hrd⟩ := hr (by intro h0; subst h0; simp at hne)
 exact ⟨b, o, ha, hb, hrd.take k⟩
theorem norm_sl {w : World} {B : Nat} {a : Option Addr} {c : Nat} {xs : List Nat} (h : Sl w B (.slice a xs.length c) (xs.map wv)) : Sl w B (.slice a (strip xs).length c) ((strip xs).map wv) := by
 have h1 := h.head (strip xs).length (by rw [List.length_map]; exact strip_length xs)
 rwa [← List.map_take, ← strip_take] at h1
def U32Post (m : Nat) (w : World) (e : Ending) (w' : World) : Prop := ∃ n : Nat, e = .returned (.int .u32 m) ∧ w' = w.drewN n
theorem u32_val (x0 x1 x2 x3 : Nat) (h0 : x0 < 256) (h1 : x1 < 256) (h2 : x2 < 256) (h3 : x3 < 256) :
   bits BinOp.or IntKind.u32 (bits BinOp.or IntKind.u32 (bits BinOp.or IntKind.u32 (x3 : Int) ((x2 : Int) * 256)) ((x1 : Int) * 65536)) ((x0 : Int) * 16777216) = ((x3 + 256 * x2 + 65536 * x1 + 16777216 * x0 : Nat) : Int) := by
 rw [u32_or8 (x3 : Int) ((x2 : Int) * 256) (by omega) (by omega) (by omega) (by omega) (by omega), u32_or16 ((x3 : Int) + (x2 : Int) * 256) ((x1 : Int) * 65536) (by omega) (by omega) (by omega) (by omega) (by omega), u32_or24 ((x3 : Int) + (x2 : Int) * 256 + (x1 : Int) * 65536) ((x0 : Int) * 16777216) (by omega) (by omega) (by omega) (by omega) (by omega)]
 omega
set_option maxHeartbeats 800000 in
theorem be32_any (b o len c : Nat) (x0 x1 x2 x3 : Nat) (w : World) (hlen : 4 ≤ len) (hl : len ≤ 9223372036854775807) (h0 : x0 < 256) (h1 : x1 < 256) (h2 : x2 < 256) (h3 : x3 < 256)
   (c0 : w.cell? ⟨b, o, none⟩ = some (.int .u8 x0)) (c1 : w.cell? ⟨b, o + 1, none⟩ = some (.int .u8 x1)) (c2 : w.cell? ⟨b, o + 2, none⟩ = some (.int .u8 x2)) (c3 : w.cell? ⟨b, o + 3, none⟩ = some (.int .u8 x3)) :
   Calls Tryz.prog 68 #[.slice (some ⟨b, o, none⟩) len c] w (U32Post (x3 + 256 * x2 + 65536 * x1 + 16777216 * x0) w) := by
 have FIN := Li (u32_val x0 x1 x2 x3 h0 h1 h2 h3)
 go_enter Tryz.func68, Tryz.ntmps68
 go_wp2
 go_quiet (fail)
 go_wp2
 go_ret
 exact ⟨_, congrArg (fun z => Ending.returned (.int .u32 z)) FIN.out, rfl⟩
def U64Post (m : Nat) (w : World) (e : Ending) (w' : World) : Prop := ∃ n : Nat, e = .returned (.int .u64 m) ∧ w' = w.drewN n
theorem be32_quiet (b o o' len c : Nat) (xs : List Nat) (w : World) (hxs : ∀ x ∈ xs, x < 256) (hlen : 4 ≤ len) (hl : len ≤ 9223372036854775807) (k : Nat) (hk : k + 4 ≤ xs.length) (h : Rd w b o (xs.map bv)) (n : Nat) (ho : o' = o + k) :
   Calls Tryz.prog 68 #[.slice (some ⟨b, o', none⟩) len c] (w.drewN n) fun e w'' => e = .returned (.int .u32 ((xs.getD (k + 3) 0 + 256 * xs.getD (k + 2) 0 + 65536 * xs.getD (k + 1) 0 + 16777216 * xs.getD k 0 : Nat) : Int)) ∧ ∃ m, w'' = w.drewN m := by
 subst ho
 have hx : ∀ j, j < xs.length → xs.getD j 0 < 256 := fun j hj => hxs _ (by rw [List.getD_eq_getElem?_getD, List.getElem?_eq_getElem hj]; simp)
 have hc : ∀ j, j < xs.length → (w.drewN n).cell? ⟨b, o + j, none⟩ = some (.int .u8 ((xs.getD j 0 : Nat) : Int)) := fun j hj => by
   have := h j (by simpa using hj)
   rwa [getD_map_bv xs j hj] at this
 refine (be32_any b (o + k) len c (xs.getD k 0) (xs.getD (k + 1) 0) (xs.getD (k + 2) 0) (xs.getD (k + 3) 0) (w.drewN n) hlen hl (hx _ (by omega)) (hx _ (by omega)) (hx _ (by omega)) (hx _ (by omega)) (hc k (by omega))
   (by have := hc (k + 1) (by omega); rwa [← Nat.add_assoc] at this) (by have := hc (k + 2) (by omega); rwa [← Nat.add_assoc] at this) (by have := hc (k + 3) (by omega); rwa [← Nat.add_assoc] at this)).mono ?_
 rintro e w' ⟨m, rfl, rfl⟩
 exact ⟨rfl, n + m, World.drewN_drewN _ _ _⟩
theorem eight_bytes (xs : List Nat) (h : xs.length = 8) : bval xs = xs.getD 7 0 + 256 * xs.getD 6 0 + 65536 * xs.getD 5 0 + 16777216 * xs.getD 4 0 + 4294967296 * (xs.getD 3 0 + 256 * xs.getD 2 0 + 65536 * xs.getD 1 0 + 16777216 * xs.getD 0 0) := by
 match xs, h with
 | [a, b, c, d, e, f, g, i], _ => simp [bval, nval]; omega
set_option maxHeartbeats 800000 in
theorem be64_any (b o c : Nat) (xs : List Nat) (w : World) (hxs : ∀ x ∈ xs, x < 256) (hlen : xs.length = 8) (hc : 8 ≤ c) (h : Rd w b o (xs.map bv)) :
   Calls Tryz.prog 67 #[.slice (some ⟨b, o, none⟩) 8 c] w (U64Post (bval xs) w) := by
 have Q1 := Li (fun n => be32_quiet b o o 8 c xs w hxs (by omega) (by omega) 0 (by omega) h n rfl)
 have Q2 := Li (fun n => be32_quiet b o (o + 4) 4 (c - 4) xs w hxs (by omega) (by omega) 4 (by omega) h n rfl)
 have c7 : w.cell? ⟨b, o + 7, none⟩ = some (.int .u8 ((xs.getD 7 0 : Nat) : Int)) := by
   have := h 7 (by simp; omega)
   rwa [getD_map_bv xs 7 (by omega)] at this
 have hx : ∀ j, j < xs.length → xs.getD j 0 < 256 := fun j hj => hxs _ (by rw [List.getD_eq_getElem?_getD, List.getElem?_eq_getElem hj]; simp)
 have b0 := hx 0 (by omega)
 have b1 := hx 1 (by omega)
 have b2 := hx 2 (by omega)
 have b3 := hx 3 (by omega)
 have b4 := hx 4 (by omega)
 have b5 := hx 5 (by omega)
 have b6 := hx 6 (by omega)
 have b7 := hx 7 (by omega)
 have ev := eight_bytes xs hlen
 have hck : ¬ c = 4 := by omega
 clear hx hxs hlen h
 simp only [Nat.zero_add, Nat.reduceAdd] at Q1 Q2
 generalize xs.getD 0 0 = x0 at *
 generalize xs.getD 1 0 = x1 at *
 generalize xs.getD 2 0 = x2 at *
 generalize xs.getD 3 0 = x3 at *
 generalize xs.getD 4 0 = x4 at *
 generalize xs.getD 5 0 = x5 at *
 generalize xs.getD 6 0 = x6 at *
 generalize xs.getD 7 0 = x7 at *
 generalize bval xs = m at *
 obtain ⟨hi, hhi⟩ : ∃ hi, hi = x3 + 256 * x2 + 65536 * x1 + 16777216 * x0 := ⟨_, rfl⟩
 obtain ⟨lo, hlo⟩ : ∃ lo, lo = x7 + 256 * x6 + 65536 * x5 + 16777216 * x4 := ⟨_, rfl⟩
 rw [← hhi] at Q1
 rw [← hlo] at Q2
 have hhi2 : hi < 4294967296 := by omega
 have hlo2 : lo < 4294967296 := by omega
 have FIN := Li (show bits BinOp.or IntKind.u64 ((hi : Int) * 4294967296) (lo : Int) = (m : Int) by
   have e := bits_join .u64 64 (by decide) wraps_u64 32 ((hi : Int) * 4294967296) (lo : Int) (by omega) (by first | omega | (simp; done) | (simp; omega)) (by first | omega | (simp; done) | (simp; omega)) (by omega) (by first | omega | (simp; done) | (simp; omega)) (by first | omega | (simp; done) | (simp; omega))
   rw [e]
   omega)
 clear hhi hlo ev
 go_enter Tryz.func67, Tryz.ntmps67
 go_wp2
 go_quiet ((go_at_call 68; first | (with_reducible exact Q1.out _) | (with_reducible exact Q2.out _)))
 go_wp2
 go_ret
 exact ⟨_, congrArg (fun z => Ending.returned (.int .u64 z)) FIN.out, rfl⟩
theorem or_at (i d x : Nat) (hi : i ≤ 48) (hd : d < 2 ^ i) (hx : x < 256) (hb : x * 2 ^ i < 18446744073709551616) : bits BinOp.or IntKind.u64 (d : Int) (IntKind.u64.wrap ((x : Int) * 2 ^ i)) = ((d + 2 ^ i * x : Nat) : Int) := by
 have e1 : (x : Int) * 2 ^ i = ((x * 2 ^ i : Nat) : Int) := by simp
 have hp : (2 : Nat) ^ i ≤ 2 ^ 48 := Nat.pow_le_pow_right (by omega) hi
 have hd2 : (d : Int) < 2 ^ i := by
   exact_mod_cast hd
 rw [e1, wraps_u64 _ (by omega) (by omega), bits_join_low .u64 64 (by decide) wraps_u64 i (d : Int) ((x * 2 ^ i : Nat) : Int) (by omega) hd2 (by omega) (by omega) ?_ (by omega)]
 · rw [Nat.mul_comm (2 ^ i) x]; omega
 · simp
theorem or_up (j d x : Nat) (hj : j ≤ 6) (hd : d < 256 ^ j) (hx : x < 256) : bits BinOp.or IntKind.u64 (d : Int) (IntKind.u64.wrap ((x : Int) * 2 ^ (8 * j))) = ((d + 256 ^ j * x : Nat) : Int) := by
 have e : (256 : Nat) ^ j = 2 ^ (8 * j) := by rw [Nat.pow_mul]
 rw [e] at hd ⊢
 refine or_at (8 * j) d x (by omega) hd hx ?_
 have h1 : (2 : Nat) ^ (8 * j) ≤ 2 ^ 48 := Nat.pow_le_pow_right (by omega) (by omega)
 have h2 : x * 2 ^ (8 * j) ≤ 255 * 2 ^ 48 := Nat.mul_le_mul (by omega) h1
 omega
end Go.Proofs.YtoojgjhfmmohbaaGreat
