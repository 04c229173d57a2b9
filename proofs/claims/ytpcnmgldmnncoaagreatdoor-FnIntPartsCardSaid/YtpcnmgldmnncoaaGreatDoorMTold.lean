/- spec.bytesOf, spec.cut, spec.Of, spec.Small: the reference's integers, by the number that they stand for. laws.told, laws.whole: an integer as the reference and as the program has it. nat.norm, the reading of words out of bytes, nat.setBytes, (*Int).SetBytes. laws.whole: the integer of a sign and of some bytes, as the reference and as the program has it. nat.setBytes, (*Int).SetBytes: the number that bytes stand for. -/
import Derived.Test.YtpcnmgldmnncoaaGreatDoorRows
import Derived.Test.YtpcnmgldmnncoaaGreatDoorMBase
import Derived.Test.YtpcnmgldmnncoaaGreatDoorMNew
import Derived.Deep.RegionLaw
import Derived.Lib.EndianBits
import Derived.Deep.RegionWith
namespace Go.Proofs.YtpcnmgldmnncoaaGreatDoor
open Go.RowKit Dig
set_option linter.unusedVariables false
set_option linter.unusedSimpArgs false
set_option maxRecDepth 100000

theorem info8 : (Tryz.prog.info? 5).map (fun i => (i.zero, i.size, i.bytes)) = some (some (.int .u8 0), 1, 1) := by kernel_rfl

/-- cut: bytes without the zeros ahead -/
def CutPost (m : Nat) (n : Nat) (w : World) (e : Ending) (w' : World) : Prop :=
  ∃ v ms, e = .returned v ∧ Bytes ms m ∧ ms.length ≤ n ∧ Sl w' w'.heap.size v (ms.map bv) ∧ Below w.heap.size w w'

set_option maxHeartbeats 400000 in
theorem cut_any (ms : List Nat) (v : Value) (w : World) (hms : ∀ x ∈ ms, x < 256) (hlen : ms.length ≤ 70368744177664) (h : Sl w w.heap.size v (ms.map bv)) :
    Calls Tryz.prog 23 #[v] w (CutPost (bval ms) ms.length w) := by
  obtain ⟨i0, hi0, hz0, hz1, hz2⟩ := info_parts info8
  obtain ⟨a, c, rfl, hc, hr⟩ := h
  simp only [List.length_map] at hc hr
  have hr' : ms ≠ [] → ∃ b o, a = some ⟨b, o, none⟩ ∧ b < w.heap.size ∧ Rd w b o (ms.map bv) := fun hne => hr (by simpa using hne)
  have HS : Hid (Sl w w.heap.size (.slice a ms.length c) (ms.map bv)) := ⟨a, c, by simp, by simpa using hc, hr⟩
  clear hr
  simp only [List.length_map]
  go_enter Tryz.func23, Tryz.ntmps23
  go_wp2
  go_loop [3] (fun i => ∃ k : Nat, k ≤ ms.length ∧ i = .int .i64 k ∧ Hid (∀ j, j < k → ms.getD j 0 = 0)) (fun i => ms.length - (intOf i).toNat)
  case atStart => exact ⟨0, Nat.zero_le _, rfl, Lib.hid (fun j hj => absurd hj (by omega))⟩
  case round =>
    obtain ⟨k, hk, rfl, hz⟩ := hrel
    by_cases hlt : k < ms.length
    · obtain ⟨b, o, rfl, hb, hrd⟩ := hr' (by intro h0; subst h0; simp at hlt)
      have hcell := hrd k (by simpa using hlt)
      rw [getD_map_bv ms k hlt] at hcell
      have hx : ms.getD k 0 < 256 := hms _ (by rw [List.getD_eq_getElem?_getD, List.getElem?_eq_getElem hlt]; simp)
      have HR := Lib.hid hrd; clear hrd
      clear hr'
      by_cases h0 : ms.getD k 0 = 0
      · have H0 := Lib.hid h0
        rw [h0] at hcell
        clear h0 hx
        go_wp2
        go_round
        case rel => exact ⟨k + 1, by omega, by go_num, Lib.hid (fun j hj => by
          by_cases e : j = k
          · subst e; exact H0.out
          · exact hz.out j (by omega))⟩
        case measure => simp [intOf]; omega
      · have h1 : (((ms.getD k 0 : Nat) : Int) == 0) = false := by simpa using h0
        have H0 := Lib.hid h0; clear h0
        generalize hg : ms.getD k 0 = x at *
        have HG := Lib.hid hg; clear hg
        have hck : ¬ c = k := by omega
        have hcut := HS.out.cut k (by simpa using hk)
        have hcb := cut_bytes ms hms k hk hz.out (.inr (by rw [HG.out]; exact H0.out))
        rw [if_neg hck] at hcut
        have hsl : Sl (w.alloc (.cells #[] 5)) w.heap.size (.slice (some ⟨b, o + k, none⟩) (ms.length - k) (c - k)) ((ms.drop k).map bv) := by
          simpa [add_zero_off] using (hcut.below ((Below.refl _ w).alloc (Nat.le_refl _) (.cells #[] 5)))
        have HC := Lib.hid hsl; clear hcut hsl
        have HB := Lib.hid hcb; clear hcb
        have H1 := Lib.hid (show 0 + ((ms.drop k).map bv).length ≤ maxLen by simp [maxLen]; omega)
        have H2 := Lib.hid (show (0 + ((ms.drop k).map bv).length) * 1 ≤ 140737488355328 by simp; omega)
        have H3 := Lib.hid (show w.heap.size ≤ (w.alloc (.cells #[] 5)).heap.size by simp)
        go_wp2_with (at_builtin; refine wpList_append_sl _ rfl (.tmp 17) (.tmp 20) 22 rfl w.heap.size 5 i0 _ 1 Tryz.underlying22 hi0 hz0 hz1 hz2 rfl _ 0 [] rfl (World.ownsRow_lit w #[] 0 (Nat.le_refl _) (by simp [maxLen]) rfl) w.heap.size _ (((ms.drop k).map bv)) rfl HC.out (oneCell_bv _) H1.out H2.out H3.out ?_; intro v' w1 hown hg; have HO := Lib.hid hown; clear hown; have HG1 := Lib.hid hg; clear hg)
        go_ret
        refine ⟨v', ms.drop k, rfl, HB.out, by simp, ?_, ((Below.refl _ w).alloc (Nat.le_refl _) _).grown HG1.out (by simp) (fun q hq => Nat.le_of_eq (Option.some.inj hq))⟩
        exact Sl.of_own (base := w.heap.size) (e := 5) (by simpa using HO.out)
    · obtain rfl : k = ms.length := by omega
      have hcb := cut_bytes ms hms ms.length (Nat.le_refl _) hz.out (.inl rfl)
      rw [List.drop_length] at hcb
      have HB := Lib.hid hcb; clear hcb
      have H1 := Lib.hid (show 0 + ([] : List Value).length ≤ maxLen by simp)
      have H2 := Lib.hid (show (0 + ([] : List Value).length) * 1 ≤ 140737488355328 by simp)
      have H3 := Lib.hid (show w.heap.size ≤ (w.alloc (.cells #[] 5)).heap.size by simp)
      have h1n := Lib.hid (show ∀ u ∈ ([] : List Value), u.oneCell' = true by simp)
      clear hr'
      by_cases hck : c = ms.length
      · subst hck
        go_wp2_with (at_builtin; refine wpList_append_sl _ rfl (.tmp 17) (.tmp 20) 22 rfl w.heap.size 5 i0 _ 1 Tryz.underlying22 hi0 hz0 hz1 hz2 rfl _ 0 [] rfl (World.ownsRow_lit w #[] 0 (Nat.le_refl _) (by simp [maxLen]) rfl) w.heap.size _ [] rfl (Sl.empty _ _ _ _) h1n.out H1.out H2.out H3.out ?_; intro v' w1 hown hg; have HO := Lib.hid hown; clear hown; have HG1 := Lib.hid hg; clear hg)
        go_ret
        refine ⟨v', [], rfl, HB.out, by simp, ?_, ((Below.refl _ w).alloc (Nat.le_refl _) _).grown HG1.out (by simp) (fun q hq => Nat.le_of_eq (Option.some.inj hq))⟩
        exact Sl.of_own (base := w.heap.size) (e := 5) (by simpa using HO.out)
      · go_wp2_with (at_builtin; refine wpList_append_sl _ rfl (.tmp 17) (.tmp 20) 22 rfl w.heap.size 5 i0 _ 1 Tryz.underlying22 hi0 hz0 hz1 hz2 rfl _ 0 [] rfl (World.ownsRow_lit w #[] 0 (Nat.le_refl _) (by simp [maxLen]) rfl) w.heap.size _ [] rfl (Sl.empty _ _ _ _) h1n.out H1.out H2.out H3.out ?_; intro v' w1 hown hg; have HO := Lib.hid hown; clear hown; have HG1 := Lib.hid hg; clear hg)
        go_ret
        refine ⟨v', [], rfl, HB.out, by simp, ?_, ((Below.refl _ w).alloc (Nat.le_refl _) _).grown HG1.out (by simp) (fun q hq => Nat.le_of_eq (Option.some.inj hq))⟩
        exact Sl.of_own (base := w.heap.size) (e := 5) (by simpa using HO.out)

/-- Of: the integer of a sign and of any bytes -/
def OfPost (m : Nat) (neg : Bool) (w : World) (e : Ending) (w' : World) : Prop :=
  ∃ v ms, e = .returned (.agg #[.bool (neg && decide (0 < m)), v]) ∧ Bytes ms m ∧ Sl w' w'.heap.size v (ms.map bv) ∧ Below w.heap.size w w'
theorem of_any (neg : Bool) (ms : List Nat) (v : Value) (w : World) (hms : ∀ x ∈ ms, x < 256) (hlen : ms.length ≤ 70368744177664) (h : Sl w w.heap.size v (ms.map bv)) :
    Calls Tryz.prog 12 #[.bool neg, v] w (OfPost (bval ms) neg w) := by
  have HM := Lib.hid hms
  have HS : Hid (Sl (w.alloc (.cells #[.bool false, .slice none 0 0] 24)) (w.alloc (.cells #[.bool false, .slice none 0 0] 24)).heap.size v (ms.map bv)) :=
    (h.below ((Below.refl _ _).alloc (Nat.le_refl _) _)).more (by simp)
  clear hms h
  go_enter Tryz.func12, Tryz.ntmps12
  go_wp2_with fail
  refine (cut_any ms v _ HM.out hlen HS.out).mono ?_
  rintro e w1 ⟨v1, ns, rfl, hB, hl, hS, hb⟩
  have hpos := Bytes.nil_iff hB
  obtain ⟨a, c, rfl, hc, hr⟩ := id hS
  have HSS := Lib.hid hS; clear hS
  have HB := Lib.hid hB; clear hB
  have hk : Blk w1 w.heap.size 24 [.bool false, .slice none 0 0] := (Blk.new w 24 [.bool false, .slice none 0 0]).below hb (by simp)
  have c0 : w1.cell? ⟨w.heap.size, 0, none⟩ = some (.bool false) := hk.cell 0 (by simp)
  have c1 : w1.cell? ⟨w.heap.size, 1, none⟩ = some (.slice none 0 0) := hk.cell 1 (by simp)
  have f0 := hk.free 0
  have f1 := hk.free 1
  have hlt := hk.lt
  have hbel : Below w.heap.size w w1 := ((Below.refl _ w).alloc (Nat.le_refl _) (.cells #[.bool false, .slice none 0 0] 24)).trans (hb.mono (by simp))
  have HBL := Lib.hid hbel; have HK := Lib.hid hk
  clear hbel hk hb hr
  have FIN : Hid (∀ x : Bool, x = (neg && decide (0 < bval ms)) → OfPost (bval ms) neg w (.returned (.agg #[.bool x, .slice a (ns.map bv).length c])) ((w1.setCell ⟨w.heap.size, 0, none⟩ (.bool x)).setCell ⟨w.heap.size, 1, none⟩ (.slice a (ns.map bv).length c))) := by
    intro x hx
    subst hx
    have hb1 := (HBL.out.setCell (p := ⟨w.heap.size, 0, none⟩) (Nat.le_refl _) (.bool (neg && decide (0 < bval ms)))).setCell (p := ⟨w.heap.size, 1, none⟩) (Nat.le_refl _) (.slice a (ns.map bv).length c)
    refine ⟨_, ns, rfl, HB.out, ?_, hb1⟩
    have s1 := HSS.out.far HK.out (not_bv (by simp [bv]) ns) 0 (.bool (neg && decide (0 < bval ms)))
    have s2 := s1.far (HK.out.set 0 _) (not_bv (by simp [bv]) ns) 1 (.slice a (ns.map bv).length c)
    simpa [World.setCell] using s2
  simp only [List.length_map] at FIN ⊢
  cases neg with
  | false =>
    go_wp2_with fail
    refine bodyPost_ret (v := .agg #[.bool false, .slice a ns.length c]) (by simp [results, Tryz.results12, go_sem, c0, c1]) rfl ?_
    exact FIN.out false rfl
  | true =>
    by_cases h0 : 0 < ns.length
    · have e1 : (true && decide (0 < bval ms)) = true := by
        have : ¬ bval ms = 0 := fun h => by rw [hpos.2 h] at h0; simp at h0
        simp; omega
      have E1 := Lib.hid e1
      clear hpos e1
      go_wp2_with fail
      refine bodyPost_ret (v := .agg #[.bool true, .slice a ns.length c]) (by simp [results, Tryz.results12, go_sem, c0, c1]) rfl ?_
      exact FIN.out true E1.out.symm
    · obtain rfl : ns = [] := List.eq_nil_of_length_eq_zero (by omega)
      have e1 : (true && decide (0 < bval ms)) = false := by
        rw [hpos.1 rfl]; rfl
      have E1 := Lib.hid e1
      clear hpos e1
      go_wp2_with fail
      refine bodyPost_ret (v := .agg #[.bool false, .slice a 0 c]) (by simp [results, Tryz.results12, go_sem, c0, c1]) rfl ?_
      exact FIN.out false E1.out.symm

theorem OfPost.sp {m : Nat} {neg : Bool} {w w' : World} {e : Ending} (h : OfPost m neg w e w') : ∃ v, e = .returned v ∧ Sp w' w'.heap.size v (if neg then -(m : Int) else m) ∧ Below w.heap.size w w' := by
  obtain ⟨v, ms, he, hb, hs, hw⟩ := h
  refine ⟨_, he, ⟨v, ?_, ms, ?_, hs⟩, hw⟩
  · cases neg <;> simp <;> omega
  · cases neg <;> simpa using hb

/-- Small: the integer of a number -/
def SpPost (i : Int) (w : World) (e : Ending) (w' : World) : Prop := ∃ v, e = .returned v ∧ Sp w' w'.heap.size v i ∧ Below w.heap.size w w'
/-- a spec.Int stored into a variable of its own -/
theorem Sp.store {w w2 : World} {b : Nat} {x y p q : Value} {i : Int} (h : Sp w2 w2.heap.size (.agg #[x, y]) i) (hk : Blk w2 b 24 [p, q]) (hp : ∀ u ∈ [p, q], ∀ m, u ≠ bv m) (hb : Below w.heap.size w w2) (hlt : w.heap.size ≤ b) :
    Sp ((w2.setCell ⟨b, 0, none⟩ x).setCell ⟨b, 1, none⟩ y) ((w2.setCell ⟨b, 0, none⟩ x).setCell ⟨b, 1, none⟩ y).heap.size (.agg #[x, y]) i ∧
    Below w.heap.size w ((w2.setCell ⟨b, 0, none⟩ x).setCell ⟨b, 1, none⟩ y) := by
  refine ⟨?_, (hb.setCell (p := ⟨b, 0, none⟩) hlt x).setCell (p := ⟨b, 1, none⟩) hlt y⟩
  obtain ⟨mag, hv, ms, hm, hs⟩ := h
  simp only [Value.agg.injEq, Array.mk.injEq, List.cons.injEq, and_true] at hv
  obtain ⟨rfl, rfl⟩ := hv
  obtain ⟨a, c, rfl, hc, hr⟩ := id hs
  refine ⟨_, rfl, ms, hm, ?_⟩
  have s1 := hs.far hk (not_bv hp ms) 0 (.bool (decide (i < 0)))
  have s2 := s1.far (hk.set 0 _) (not_bv (by
    intro u hu m
    simp only [List.set_cons_zero, List.mem_cons, List.not_mem_nil, or_false] at hu
    rcases hu with rfl | rfl
    · simp [bv]
    · exact hp _ (by simp) m) ms) 1 (.slice a (ms.map bv).length c)
  simpa [World.setCell] using s2

/-- out of 8 bytes the last 8 - k are written -/
def eight (u k : Nat) : List Value := (List.replicate k 0 ++ (dgs 256 (8 - k) u).reverse).map bv
theorem eight_length (u k : Nat) (hk : k ≤ 8) : (eight u k).length = 8 := by simp [eight, dgs_length]; omega
theorem eight_set (u k : Nat) (hk : k ≤ 8) (h1 : 1 ≤ k) : (eight u k).set (k - 1) (bv (u / 256 ^ (8 - k) % 256)) = eight u (k - 1) := by
  unfold eight
  have e : 8 - (k - 1) = 8 - k + 1 := by omega
  rw [e, dgs_snoc, List.reverse_append]
  have e2 : List.replicate k 0 = List.replicate (k - 1) 0 ++ [0] := by
    rw [← List.replicate_succ']; congr 1; omega
  rw [e2]
  simp only [List.map_append, List.map_replicate, List.map_cons, List.map_nil, List.reverse_cons, List.reverse_nil, List.nil_append, List.append_assoc, List.cons_append]
  rw [List.set_append_right _ _ (by simp), List.length_replicate, Nat.sub_self]
  rfl

theorem make8 (w : World) : (Instr.makeSlice 22 (.int .i64 8) (.int .i64 8)).run Tryz.prog w = .ok (.slice (some ⟨w.heap.size, 0, none⟩) 8 8) (w.alloc (.cells (eight 0 8).toArray 5)) := by kernel_rfl

def B8Post (u : Nat) (w : World) (e : Ending) (w' : World) : Prop :=
  ∃ b, e = .returned (.slice (some ⟨b, 0, none⟩) 8 8) ∧ Blk w' b 5 (eight u 0) ∧ Below w.heap.size w w'
set_option maxHeartbeats 400000 in
theorem bytesOf_any (u : Nat) (w : World) (hu : u < 18446744073709551616) : Calls Tryz.prog 15 #[.int .u64 u] w (B8Post u w) := by
  have hmk := make8
  have hB0 : Blk (w.alloc (.cells (eight 0 8).toArray 5)) w.heap.size 5 (eight 0 8) := Blk.new _ _ _
  have e0 : eight 0 8 = eight u 8 := rfl
  rw [e0] at hB0
  have HB0 := Lib.hid hB0
  have HU := Lib.hid hu
  clear hB0 e0 hu
  go_enter Tryz.func15, Tryz.ntmps15
  go_wp2
  go_loopw [0, 4] (fun q i wr => ∃ k : Nat, k ≤ 8 ∧ i = .int .i64 ((k : Int) - 1) ∧ q = .int .u64 ((u / 256 ^ (8 - k) : Nat) : Int) ∧ Hid (Blk wr w.heap.size 5 (eight u k)) ∧ Below w.heap.size w wr) (fun _ i _ => (intOf i + 1).toNat)
  case atStart => exact ⟨8, Nat.le_refl _, rfl, by simp, HB0, (Below.refl _ _).alloc (Nat.le_refl _) _⟩
  case round =>
    obtain ⟨k, hk, rfl, rfl, hb, hw⟩ := hrel
    by_cases h1 : 1 ≤ k
    · have hc := hb.out.cell (k - 1) (by rw [eight_length _ _ hk]; omega)
      have hf := hb.out.free (k - 1)
      have hq : u / 256 ^ (8 - k) < 18446744073709551616 := Nat.lt_of_le_of_lt (Nat.div_le_self _ _) HU.out
      have hset := Lib.hid (eight_set u k hk h1)
      have e2 := Lib.hid (show u / 256 ^ (8 - k) / 256 = u / 256 ^ (8 - (k - 1)) by
        rw [Nat.div_div_eq_div_mul, ← Nat.pow_succ]; congr 2; omega)
      generalize (eight u k).getD (k - 1) undef = cv at *
      generalize u / 256 ^ (8 - k) = q at *
      go_wp2
      go_roundw
      case rel =>
        refine ⟨k - 1, by omega, by go_num, by rw [← e2.out]; rfl, Lib.hid ?_, hw.setCell (Nat.le_refl _) _⟩
        have := hb.out.set (k - 1) (bv (q % 256))
        rw [hset.out] at this
        exact this
      case measure => simp [intOf]; omega
    · obtain rfl : k = 0 := by omega
      go_wp2
      go_ret
      exact ⟨_, rfl, hb.out, hw⟩

theorem eight_zero (u : Nat) : eight u 0 = (dgs 256 8 u).reverse.map bv := by simp [eight]

theorem eight_sl {w : World} {b u : Nat} (h : Blk w b 5 (eight u 0)) : Sl w w.heap.size (.slice (some ⟨b, 0, none⟩) 8 8) (((dgs 256 8 u).reverse).map bv) := by
  rw [eight_zero] at h
  have := Sl.mk (w := w) (b := b) (o := 0) (B := w.heap.size) (vs := ((dgs 256 8 u).reverse).map bv) (c := 8) (h.rd (by simp) (fun i _ => by rw [Nat.zero_add])) (by simp [dgs_length]) h.lt
  simpa [dgs_length] using this
theorem eight_val (u : Nat) (hu : u < 18446744073709551616) : bval ((dgs 256 8 u).reverse) = u := by
  unfold bval
  rw [List.reverse_reverse, dgs_val_of _ _ _ (by simpa using hu)]
theorem eight_lt (u : Nat) : ∀ x ∈ (dgs 256 8 u).reverse, x < 256 := fun x hx => dgs_lt 256 (by omega) 8 u x (by simpa using hx)

set_option maxHeartbeats 400000 in
theorem small_any (n : Int) (w : World) (h1 : -9223372036854775808 ≤ n) (h2 : n ≤ 9223372036854775807) : Calls Tryz.prog 6 #[.int .i64 n] w (SpPost n w) := by
  have core : ∀ (neg : Bool) (w1 : World), (neg = decide (n < 0)) → Below w.heap.size w w1 → Blk w1 w.heap.size 24 [.bool false, .slice none 0 0] → ∀ (b : Nat), Blk w1 b 5 (eight n.natAbs 0) →
      Calls Tryz.prog 12 #[.bool neg, .slice (some ⟨b, 0, none⟩) 8 8] w1 fun e w2 => ∃ (x : Bool) (a : Option Addr) (k c : Nat), e = .returned (.agg #[.bool x, .slice a k c]) ∧ Sp w2 w2.heap.size (.agg #[.bool x, .slice a k c]) n ∧ Blk w2 w.heap.size 24 [.bool false, .slice none 0 0] ∧ Below w.heap.size w w2 := by
    intro neg w1 hneg hb hk b h8
    refine (of_any neg _ _ w1 (eight_lt n.natAbs) (by simp [dgs_length]) (eight_sl h8)).mono ?_
    intro e w2 h
    obtain ⟨v, he, hsp, hbl⟩ := h.sp
    rw [eight_val _ (by omega)] at hsp
    have e2 : (if neg then -((n.natAbs : Nat) : Int) else ((n.natAbs : Nat) : Int)) = n := by
      subst hneg
      by_cases h : n < 0 <;> simp [h] <;> omega
    rw [e2] at hsp
    obtain ⟨x, a, k, c, rfl⟩ := hsp.form
    exact ⟨x, a, k, c, he, hsp, hk.below hbl hk.lt, hb.trans (hbl.mono hb.size)⟩
  have CORE := Lib.hid core
  clear core
  by_cases hn : n < 0
  · have e1 : IntKind.u64.wrap (-IntKind.u64.wrap n) = ((n.natAbs : Nat) : Int) := by rw [IntKind.wrap_u64, IntKind.wrap_u64]; omega
    have E1 := Lib.hid e1; clear e1
    have E2 := Lib.hid (show n.natAbs < 18446744073709551616 by omega)
    have E3 := Lib.hid (show true = decide (n < 0) by simpa using hn)
    go_enter Tryz.func6, Tryz.ntmps6
    go_wp2_with fail
    rw [E1.out]
    refine (bytesOf_any _ _ E2.out).mono ?_
    rintro e w1 ⟨b, rfl, h8, hb⟩
    have hk : Blk w1 w.heap.size 24 [.bool false, .slice none 0 0] := (Blk.new w 24 [.bool false, .slice none 0 0]).below hb (by simp)
    have H8 := Lib.hid h8; clear h8
    have hbel : Below w.heap.size w w1 := ((Below.refl _ w).alloc (Nat.le_refl _) (.cells #[.bool false, .slice none 0 0] 24)).trans (hb.mono (by simp))
    have HK := Lib.hid hk; clear hk
    have HB := Lib.hid hbel; clear hbel hb
    go_wp2_with fail
    refine (CORE.out true w1 E3.out HB.out HK.out b H8.out).mono ?_
    rintro e w2 ⟨x, a, k, c, rfl, hsp, hk, hb⟩
    have c0 : w2.cell? ⟨w.heap.size, 0, none⟩ = some (.bool false) := hk.cell 0 (by simp)
    have c1 : w2.cell? ⟨w.heap.size, 1, none⟩ = some (.slice none 0 0) := hk.cell 1 (by simp)
    have f0 := hk.free 0
    have f1 := hk.free 1
    have FIN := Lib.hid (hsp.store (w := w) hk (by simp [bv]) hb (Nat.le_refl _))
    clear hsp hk hb
    go_wp2_with fail
    refine bodyPost_ret (v := .agg #[.bool x, .slice a k c]) (by simp [results, Tryz.results6, go_sem, c0, c1]) rfl ?_
    exact ⟨_, rfl, FIN.out.1, FIN.out.2⟩
  · obtain ⟨m, rfl⟩ := Int.eq_ofNat_of_zero_le (show 0 ≤ n by omega)
    rw [Int.natAbs_natCast] at CORE
    have E2 := Lib.hid (show m < 18446744073709551616 by omega)
    have E3 := Lib.hid (show false = decide ((m : Int) < 0) by simp)
    go_enter Tryz.func6, Tryz.ntmps6
    go_wp2_with fail
    refine (bytesOf_any _ _ E2.out).mono ?_
    rintro e w1 ⟨b, rfl, h8, hb⟩
    have hk : Blk w1 w.heap.size 24 [.bool false, .slice none 0 0] := (Blk.new w 24 [.bool false, .slice none 0 0]).below hb (by simp)
    have H8 := Lib.hid h8; clear h8
    have hbel : Below w.heap.size w w1 := ((Below.refl _ w).alloc (Nat.le_refl _) (.cells #[.bool false, .slice none 0 0] 24)).trans (hb.mono (by simp))
    have HK := Lib.hid hk; clear hk
    have HB := Lib.hid hbel; clear hbel hb
    go_wp2_with fail
    refine (CORE.out false w1 E3.out HB.out HK.out b H8.out).mono ?_
    rintro e w2 ⟨x, a, k, c, rfl, hsp, hk, hb⟩
    have c0 : w2.cell? ⟨w.heap.size, 0, none⟩ = some (.bool false) := hk.cell 0 (by simp)
    have c1 : w2.cell? ⟨w.heap.size, 1, none⟩ = some (.slice none 0 0) := hk.cell 1 (by simp)
    have f0 := hk.free 0
    have f1 := hk.free 1
    have FIN := Lib.hid (hsp.store (w := w) hk (by simp [bv]) hb (Nat.le_refl _))
    clear hsp hk hb
    go_wp2_with fail
    refine bodyPost_ret (v := .agg #[.bool x, .slice a k c]) (by simp [results, Tryz.results6, go_sem, c0, c1]) rfl ?_
    exact ⟨_, rfl, FIN.out.1, FIN.out.2⟩
end Go.Proofs.YtpcnmgldmnncoaaGreatDoor

namespace Go.Proofs.YtpcnmgldmnncoaaGreatDoor
open Go.RowKit Dig
set_option linter.unusedVariables false
set_option linter.unusedSimpArgs false
set_option maxRecDepth 100000

/-- the world in which 'told' appends -/
def toldW (w : World) (neg : Bool) (mag : Value) : World :=
  ((w.alloc (.cells #[.bool neg, mag] 24)).alloc (.cells zeroVal.toArray 28)).alloc (.cells #[] 5)
theorem toldW_below (w : World) (neg : Bool) (mag : Value) : Below w.heap.size w (toldW w neg mag) := (((Below.refl _ _).alloc (Nat.le_refl _) _).alloc (by simp) _).alloc (by simp; omega) _
theorem toldW_row (w : World) (neg : Bool) (mag : Value) : Blk (toldW w neg mag) (w.heap.size + 1 + 1) 5 [] := by
  have := Blk.new ((w.alloc (.cells #[.bool neg, mag] 24)).alloc (.cells zeroVal.toArray 28)) 5 []
  simpa [toldW] using this
theorem toldW_val (w : World) (neg : Bool) (mag : Value) : Blk (toldW w neg mag) (w.heap.size + 1) 28 zeroVal := by
  have := (Blk.new (w.alloc (.cells #[.bool neg, mag] 24)) 28 zeroVal).alloc (.cells #[] 5)
  simpa [toldW] using this
theorem toldW_int (w : World) (neg : Bool) (mag : Value) : Blk (toldW w neg mag) w.heap.size 24 [.bool neg, mag] :=
  ((Blk.new w 24 [.bool neg, mag]).alloc _).alloc _

set_option maxHeartbeats 1600000 in
theorem told_any (v : Value) (i : Int) (w : World) (hv : Sp w w.heap.size v i) (hl : i.natAbs < lim) : Calls Tryz.prog 7 #[v] w (VaPost i w) := by
  obtain ⟨mag, rfl, ms, hm, hs⟩ := hv
  obtain ⟨i0, hi0, hz0, hz1, hz2⟩ := info_parts info8
  have hlen : ms.length ≤ 4096 := hm.length_le hl
  obtain ⟨neg, hneg⟩ : ∃ neg, neg = decide (i < 0) := ⟨_, rfl⟩
  rw [← hneg]
  have ROW : Hid (Blk (toldW w neg mag).drew (w.heap.size + 1 + 1) 5 []) := toldW_row w neg mag
  have SRC : Hid (Sl (toldW w neg mag).drew w.heap.size mag (ms.map bv)) := (hs.below (toldW_below w neg mag)).drewN 1
  have after : Hid (∀ a' c' w', Sl w' w'.heap.size (.slice a' (ms.map bv).length c') (ms.map bv) → Up (some (w.heap.size + 1 + 1)) (toldW w neg mag).drew w' →
      Blk w' (w.heap.size + 1) 28 zeroVal ∧ Blk w' w.heap.size 24 [.bool neg, mag] ∧
      VaPost i w (.returned (.agg #[.int .i64 2, .bool neg, .slice a' (ms.map bv).length c', .int .u64 0, .string ByteArray.empty, .slice none 0 0]))
      ((((((w'.setCell ⟨w.heap.size + 1, 0, none⟩ (.int .i64 2)).setCell ⟨w.heap.size + 1, 1, none⟩ (.bool neg)).setCell ⟨w.heap.size + 1, 2, none⟩ (.slice a' (ms.map bv).length c')).setCell ⟨w.heap.size + 1, 3, none⟩ (.int .u64 0)).setCell ⟨w.heap.size + 1, 4, none⟩ (.string ByteArray.empty)).setCell ⟨w.heap.size + 1, 5, none⟩ (.slice none 0 0))) := Lib.hid (fun a' c' w' hsl hu' => by
    have hu : Up (some (w.heap.size + 1 + 1)) (toldW w neg mag) w' := ((Up.refl _ _).drewN 1).trans hu'
    have k1 := (toldW_val w neg mag).up hu (by simp)
    have k0 := (toldW_int w neg mag).up hu (by simp; omega)
    have hb : Below w.heap.size w w' := (toldW_below w neg mag).trans (hu.below (toldW_below w neg mag).size (fun k hk => by injection hk with hk; omega))
    exact ⟨k1, k0, Va.store ⟨ms, hm, hsl⟩ hneg k1 hb (by omega)⟩)
  have H1 := Lib.hid (show (ms.map bv).length ≤ maxLen by simp [maxLen]; omega)
  have H2 := Lib.hid (show (ms.map bv).length * 1 ≤ 140737488355328 by simp; omega)
  obtain ⟨a, c, rfl, _⟩ := id hs
  clear hs hm hneg hlen hl
  unfold toldW zeroVal at ROW SRC after
  simp only [List.length_map] at ROW SRC after
  go_enter Tryz.func7, Tryz.ntmps7
  go_wp2_with fail
  go_region_law (refine step_append_new _ rfl (.tmp 5) (.tmp 7) 22 rfl 5 i0 _ 1 Tryz.underlying22 hi0 hz0 hz1 hz2 rfl (w.heap.size + 1 + 1) (by simp [Act.eval, Act.put]) ROW.out w.heap.size _ (ms.map bv) (by simp [Act.eval, Act.put]) SRC.out (oneCell_bv _) H1.out H2.out ?_; intro a' c' w' h1 h2; simp only [List.length_map] at h1; obtain ⟨k1, k0, hfin⟩ := after.out a' c' w' h1 h2; have hlt := k1.lt; have hlt0 := k0.lt; have q0 := k0.cell 0 (by simp); have q1 := k0.cell 1 (by simp); simp only [List.getD_cons_zero, List.getD_cons_succ] at q0 q1; have c0 : w'.cell? ⟨w.heap.size + 1, 0, none⟩ = some (.int .i64 0) := k1.cell 0 (by simp); have c1 : w'.cell? ⟨w.heap.size + 1, 1, none⟩ = some (.bool false) := k1.cell 1 (by simp); have c2 : w'.cell? ⟨w.heap.size + 1, 2, none⟩ = some (.slice none 0 0) := k1.cell 2 (by simp); have c3 : w'.cell? ⟨w.heap.size + 1, 3, none⟩ = some (.int .u64 0) := k1.cell 3 (by simp); have c4 : w'.cell? ⟨w.heap.size + 1, 4, none⟩ = some (.string ByteArray.empty) := k1.cell 4 (by simp); have c5 : w'.cell? ⟨w.heap.size + 1, 5, none⟩ = some (.slice none 0 0) := k1.cell 5 (by simp); have f0 := k1.free 0; have f1 := k1.free 1; have f2 := k1.free 2; have f3 := k1.free 3; have f4 := k1.free 4; have f5 := k1.free 5; have F := Lib.hid hfin; clear k1 k0 hfin h1 h2)
  all_goals
    go_wp2_with fail
    refine bodyPost_ret (v := .agg #[.int .i64 2, .bool neg, .slice a' ms.length c', .int .u64 0, .string ByteArray.empty, .slice none 0 0]) (by simp [results, Tryz.results7, go_sem, c0, c1, c2, c3, c4, c5]; rfl) rfl ?_
    exact F.out
end Go.Proofs.YtpcnmgldmnncoaaGreatDoor

namespace Go.Proofs.YtpcnmgldmnncoaaGreatDoor
open Go.RowKit Dig
set_option linter.unusedVariables false
set_option linter.unusedSimpArgs false
set_option maxRecDepth 100000

/-- norm: without the zeros at the end -/
def NormPost (a : Option Addr) (n c : Nat) (w : World) (e : Ending) (w' : World) : Prop := e = .returned (.slice a n c) ∧ w = w'
set_option maxHeartbeats 400000 in
theorem norm_any (xs : List Nat) (a : Option Addr) (c B : Nat) (w : World) (hs : Sl w B (.slice a xs.length c) (xs.map wv)) (hxs : ∀ x ∈ xs, x < 18446744073709551616) (hl : xs.length ≤ 1099511627776) :
    Calls Tryz.prog 56 #[.slice a xs.length c] w (NormPost a (strip xs).length c w) := by
  obtain ⟨a', c', hv, hc, hr⟩ := hs
  simp only [List.length_map, Value.slice.injEq, true_and] at hv
  obtain ⟨rfl, rfl⟩ := hv
  simp only [List.length_map, ne_eq, List.map_eq_nil_iff] at hc hr
  have HR := Lib.hid hr
  have HX := Lib.hid hxs
  clear hr hxs
  go_enter Tryz.func56, Tryz.ntmps56
  go_wp2
  go_loop [3] (fun i => ∃ k : Nat, k ≤ xs.length ∧ i = .int .i64 k ∧ Hid (∀ j, k ≤ j → j < xs.length → xs.getD j 0 = 0)) (fun i => (intOf i).toNat)
  case atStart => exact ⟨xs.length, Nat.le_refl _, rfl, Lib.hid (fun j h1 h2 => absurd h1 (by omega))⟩
  case round =>
    obtain ⟨k, hk, rfl, hz⟩ := hrel
    have fin : (k = 0 ∨ xs.getD (k - 1) 0 ≠ 0) → NormPost a (strip xs).length c w (.returned (.slice a k c)) w := fun hn => by
      rw [strip_of xs k hk hz.out hn, List.length_take, Nat.min_eq_left hk]; exact ⟨rfl, rfl⟩
    have FIN := Lib.hid fin
    clear fin
    by_cases h1 : 0 < k
    · obtain ⟨b, o, rfl, hb, hrd⟩ := HR.out (by intro h0; subst h0; simp at hk; omega)
      have hcell := hrd (k - 1) (by simp; omega)
      rw [getD_map_wv xs (k - 1) (by omega)] at hcell
      have hx : xs.getD (k - 1) 0 < 18446744073709551616 := HX.out _ (by rw [List.getD_eq_getElem?_getD, List.getElem?_eq_getElem (by omega)]; simp)
      clear hrd
      by_cases h0 : xs.getD (k - 1) 0 = 0
      · have H0 := Lib.hid h0
        rw [h0] at hcell
        clear h0 hx
        go_wp2
        go_round
        case rel => exact ⟨k - 1, by omega, by go_num, Lib.hid (fun j h1 h2 => by
          by_cases e : j = k - 1
          · subst e; exact H0.out
          · exact hz.out j (by omega) h2)⟩
        case measure => simp [intOf]; omega
      · have h2 : (((xs.getD (k - 1) 0 : Nat) : Int) == 0) = false := by simpa using h0
        have F := Lib.hid (FIN.out (.inr h0))
        clear h0
        generalize xs.getD (k - 1) 0 = x at *
        go_wp2
        go_ret
        exact F.out
    · obtain rfl : k = 0 := by omega
      have F := Lib.hid (FIN.out (.inl rfl))
      go_wp2
      go_ret
      exact F.out

/-- a beginning of what a slice reads -/
theorem Sl.head {w : World} {B : Nat} {a : Option Addr} {n c : Nat} {vs : List Value} (h : Sl w B (.slice a n c) vs) (k : Nat) (hk : k ≤ vs.length) : Sl w B (.slice a k c) (vs.take k) := by
  obtain ⟨a', c', hv, hc, hr⟩ := h
  simp only [Value.slice.injEq] at hv
  obtain ⟨rfl, rfl, rfl⟩ := hv
  refine ⟨a, c, by rw [List.length_take, Nat.min_eq_left hk], by rw [List.length_take]; omega, fun hne => ?_⟩
  obtain ⟨b, o, ha, hb, hrd⟩ := hr (by intro h0; subst h0; simp at hne)
  exact ⟨b, o, ha, hb, hrd.take k⟩
theorem norm_sl {w : World} {B : Nat} {a : Option Addr} {c : Nat} {xs : List Nat} (h : Sl w B (.slice a xs.length c) (xs.map wv)) : Sl w B (.slice a (strip xs).length c) ((strip xs).map wv) := by
  have h1 := h.head (strip xs).length (by rw [List.length_map]; exact strip_length xs)
  rwa [← List.map_take, ← strip_take] at h1

/-- four bytes, the highest first -/
def U32Post (m : Nat) (w : World) (e : Ending) (w' : World) : Prop := ∃ n : Nat, e = .returned (.int .u32 m) ∧ w' = w.drewN n
theorem u32_val (x0 x1 x2 x3 : Nat) (h0 : x0 < 256) (h1 : x1 < 256) (h2 : x2 < 256) (h3 : x3 < 256) :
    bits BinOp.or IntKind.u32 (bits BinOp.or IntKind.u32 (bits BinOp.or IntKind.u32 (x3 : Int) ((x2 : Int) * 256)) ((x1 : Int) * 65536)) ((x0 : Int) * 16777216) = ((x3 + 256 * x2 + 65536 * x1 + 16777216 * x0 : Nat) : Int) := by
  rw [u32_or8 (x3 : Int) ((x2 : Int) * 256) (by omega) (by omega) (by omega) (by omega) (by omega), u32_or16 ((x3 : Int) + (x2 : Int) * 256) ((x1 : Int) * 65536) (by omega) (by omega) (by omega) (by omega) (by omega), u32_or24 ((x3 : Int) + (x2 : Int) * 256 + (x1 : Int) * 65536) ((x0 : Int) * 16777216) (by omega) (by omega) (by omega) (by omega) (by omega)]
  omega
set_option maxHeartbeats 800000 in
theorem be32_any (b o len c : Nat) (x0 x1 x2 x3 : Nat) (w : World) (hlen : 4 ≤ len) (hl : len ≤ 9223372036854775807) (h0 : x0 < 256) (h1 : x1 < 256) (h2 : x2 < 256) (h3 : x3 < 256)
    (c0 : w.cell? ⟨b, o, none⟩ = some (.int .u8 x0)) (c1 : w.cell? ⟨b, o + 1, none⟩ = some (.int .u8 x1)) (c2 : w.cell? ⟨b, o + 2, none⟩ = some (.int .u8 x2)) (c3 : w.cell? ⟨b, o + 3, none⟩ = some (.int .u8 x3)) :
    Calls Tryz.prog 72 #[.slice (some ⟨b, o, none⟩) len c] w (U32Post (x3 + 256 * x2 + 65536 * x1 + 16777216 * x0) w) := by
  have FIN := Lib.hid (u32_val x0 x1 x2 x3 h0 h1 h2 h3)
  go_enter Tryz.func72, Tryz.ntmps72
  go_wp2
  go_quiet (fail)
  go_wp2
  go_ret
  exact ⟨_, congrArg (fun z => Ending.returned (.int .u32 z)) FIN.out, rfl⟩

/-- eight bytes, the highest first -/
def U64Post (m : Nat) (w : World) (e : Ending) (w' : World) : Prop := ∃ n : Nat, e = .returned (.int .u64 m) ∧ w' = w.drewN n
theorem be32_quiet (b o o' len c : Nat) (xs : List Nat) (w : World) (hxs : ∀ x ∈ xs, x < 256) (hlen : 4 ≤ len) (hl : len ≤ 9223372036854775807) (k : Nat) (hk : k + 4 ≤ xs.length) (h : Rd w b o (xs.map bv)) (n : Nat) (ho : o' = o + k) :
    Calls Tryz.prog 72 #[.slice (some ⟨b, o', none⟩) len c] (w.drewN n) fun e w'' => e = .returned (.int .u32 ((xs.getD (k + 3) 0 + 256 * xs.getD (k + 2) 0 + 65536 * xs.getD (k + 1) 0 + 16777216 * xs.getD k 0 : Nat) : Int)) ∧ ∃ m, w'' = w.drewN m := by
  subst ho
  have hx : ∀ j, j < xs.length → xs.getD j 0 < 256 := fun j hj => hxs _ (by rw [List.getD_eq_getElem?_getD, List.getElem?_eq_getElem hj]; simp)
  have hc : ∀ j, j < xs.length → (w.drewN n).cell? ⟨b, o + j, none⟩ = some (.int .u8 ((xs.getD j 0 : Nat) : Int)) := fun j hj => by
    have := h j (by simpa using hj)
    rwa [getD_map_bv xs j hj] at this
  refine (be32_any b (o + k) len c (xs.getD k 0) (xs.getD (k + 1) 0) (xs.getD (k + 2) 0) (xs.getD (k + 3) 0) (w.drewN n) hlen hl (hx _ (by omega)) (hx _ (by omega)) (hx _ (by omega)) (hx _ (by omega)) (hc k (by omega))
    (by have := hc (k + 1) (by omega); rwa [← Nat.add_assoc] at this) (by have := hc (k + 2) (by omega); rwa [← Nat.add_assoc] at this) (by have := hc (k + 3) (by omega); rwa [← Nat.add_assoc] at this)).mono ?_
  rintro e w' ⟨m, rfl, rfl⟩
  exact ⟨rfl, n + m, World.drewN_drewN _ _ _⟩
theorem eight_bytes (xs : List Nat) (h : xs.length = 8) : bval xs = xs.getD 7 0 + 256 * xs.getD 6 0 + 65536 * xs.getD 5 0 + 16777216 * xs.getD 4 0 + 4294967296 * (xs.getD 3 0 + 256 * xs.getD 2 0 + 65536 * xs.getD 1 0 + 16777216 * xs.getD 0 0) := by
  match xs, h with
  | [a, b, c, d, e, f, g, i], _ => simp [bval, nval]; omega
set_option maxHeartbeats 800000 in
theorem be64_any (b o c : Nat) (xs : List Nat) (w : World) (hxs : ∀ x ∈ xs, x < 256) (hlen : xs.length = 8) (hc : 8 ≤ c) (h : Rd w b o (xs.map bv)) :
    Calls Tryz.prog 71 #[.slice (some ⟨b, o, none⟩) 8 c] w (U64Post (bval xs) w) := by
  have Q1 := Lib.hid (fun n => be32_quiet b o o 8 c xs w hxs (by omega) (by omega) 0 (by omega) h n rfl)
  have Q2 := Lib.hid (fun n => be32_quiet b o (o + 4) 4 (c - 4) xs w hxs (by omega) (by omega) 4 (by omega) h n rfl)
  have c7 : w.cell? ⟨b, o + 7, none⟩ = some (.int .u8 ((xs.getD 7 0 : Nat) : Int)) := by
    have := h 7 (by simp; omega)
    rwa [getD_map_bv xs 7 (by omega)] at this
  have hx : ∀ j, j < xs.length → xs.getD j 0 < 256 := fun j hj => hxs _ (by rw [List.getD_eq_getElem?_getD, List.getElem?_eq_getElem hj]; simp)
  have b0 := hx 0 (by omega)
  have b1 := hx 1 (by omega)
  have b2 := hx 2 (by omega)
  have b3 := hx 3 (by omega)
  have b4 := hx 4 (by omega)
  have b5 := hx 5 (by omega)
  have b6 := hx 6 (by omega)
  have b7 := hx 7 (by omega)
  have ev := eight_bytes xs hlen
  have hck : ¬ c = 4 := by omega
  clear hx hxs hlen h
  simp only [Nat.zero_add, Nat.reduceAdd] at Q1 Q2
  generalize xs.getD 0 0 = x0 at *
  generalize xs.getD 1 0 = x1 at *
  generalize xs.getD 2 0 = x2 at *
  generalize xs.getD 3 0 = x3 at *
  generalize xs.getD 4 0 = x4 at *
  generalize xs.getD 5 0 = x5 at *
  generalize xs.getD 6 0 = x6 at *
  generalize xs.getD 7 0 = x7 at *
  generalize bval xs = m at *
  obtain ⟨hi, hhi⟩ : ∃ hi, hi = x3 + 256 * x2 + 65536 * x1 + 16777216 * x0 := ⟨_, rfl⟩
  obtain ⟨lo, hlo⟩ : ∃ lo, lo = x7 + 256 * x6 + 65536 * x5 + 16777216 * x4 := ⟨_, rfl⟩
  rw [← hhi] at Q1
  rw [← hlo] at Q2
  have hhi2 : hi < 4294967296 := by omega
  have hlo2 : lo < 4294967296 := by omega
  have FIN := Lib.hid (show bits BinOp.or IntKind.u64 ((hi : Int) * 4294967296) (lo : Int) = (m : Int) by
    have e := bits_join .u64 64 (by decide) wraps_u64 32 ((hi : Int) * 4294967296) (lo : Int) (by omega) (by first | omega | (simp; done) | (simp; omega)) (by first | omega | (simp; done) | (simp; omega)) (by omega) (by first | omega | (simp; done) | (simp; omega)) (by first | omega | (simp; done) | (simp; omega))
    rw [e]
    omega)
  clear hhi hlo ev
  go_enter Tryz.func71, Tryz.ntmps71
  go_wp2
  go_quiet ((go_at_call 72; first | (with_reducible exact Q1.out _) | (with_reducible exact Q2.out _)))
  go_wp2
  go_ret
  exact ⟨_, congrArg (fun z => Ending.returned (.int .u64 z)) FIN.out, rfl⟩

theorem or_at (i d x : Nat) (hi : i ≤ 48) (hd : d < 2 ^ i) (hx : x < 256) (hb : x * 2 ^ i < 18446744073709551616) : bits BinOp.or IntKind.u64 (d : Int) (IntKind.u64.wrap ((x : Int) * 2 ^ i)) = ((d + 2 ^ i * x : Nat) : Int) := by
  have e1 : (x : Int) * 2 ^ i = ((x * 2 ^ i : Nat) : Int) := by simp
  have hp : (2 : Nat) ^ i ≤ 2 ^ 48 := Nat.pow_le_pow_right (by omega) hi
  have hd2 : (d : Int) < 2 ^ i := by
    exact_mod_cast hd
  rw [e1, wraps_u64 _ (by omega) (by omega), bits_join_low .u64 64 (by decide) wraps_u64 i (d : Int) ((x * 2 ^ i : Nat) : Int) (by omega) hd2 (by omega) (by omega) ?_ (by omega)]
  · rw [Nat.mul_comm (2 ^ i) x]; omega
  · simp
theorem or_up (j d x : Nat) (hj : j ≤ 6) (hd : d < 256 ^ j) (hx : x < 256) : bits BinOp.or IntKind.u64 (d : Int) (IntKind.u64.wrap ((x : Int) * 2 ^ (8 * j))) = ((d + 256 ^ j * x : Nat) : Int) := by
  have e : (256 : Nat) ^ j = 2 ^ (8 * j) := by rw [Nat.pow_mul]
  rw [e] at hd ⊢
  refine or_at (8 * j) d x (by omega) hd hx ?_
  have h1 : (2 : Nat) ^ (8 * j) ≤ 2 ^ 48 := Nat.pow_le_pow_right (by omega) (by omega)
  have h2 : x * 2 ^ (8 * j) ≤ 255 * 2 ^ 48 := Nat.mul_le_mul (by omega) h1
  omega
end Go.Proofs.YtpcnmgldmnncoaaGreatDoor

namespace Go.Proofs.YtpcnmgldmnncoaaGreatDoor
open Go.RowKit Dig
set_option linter.unusedVariables false
set_option linter.unusedSimpArgs false
set_option maxRecDepth 100000

/-- a pair: an integer as the reference has it, and as the program has it -/
def PairPost (most : Nat) (w : World) (e : Ending) (w' : World) : Prop :=
  ∃ (i : Int) (n1 n2 : Bool) (a1 a2 : Option Addr) (k1 c1 k2 c2 : Nat), i.natAbs < 256 ^ most ∧
    e = .returned (.tuple #[.agg #[.bool n1, .slice a1 k1 c1], .agg #[.int .i64 2, .bool n2, .slice a2 k2 c2, .int .u64 0, .string ByteArray.empty, .slice none 0 0]]) ∧
    Sp w' w'.heap.size (.agg #[.bool n1, .slice a1 k1 c1]) i ∧ Va w' w'.heap.size (.agg #[.int .i64 2, .bool n2, .slice a2 k2 c2, .int .u64 0, .string ByteArray.empty, .slice none 0 0]) i ∧ Below w.heap.size w w'

theorem By.far {w : World} {B b : Nat} {v : Value} {m : Nat} {L : List Value} {e : TypeId} (h : By w B v m) (hk : Blk w b e L) (hd : ∀ u ∈ L, ∀ x, u ≠ bv x) (i : Nat) (y : Value) : By (w.setCell ⟨b, i, none⟩ y) B v m := by
  obtain ⟨ms, h1, h2⟩ := h
  exact ⟨ms, h1, h2.far hk (not_bv hd ms) i y⟩
theorem By.farVal {w : World} {B b : Nat} {v : Value} {m : Nat} {neg : Bool} {a : Option Addr} {k c : Nat} (h : By w B v m) (hk : Blk w b 28 zeroVal) :
    By ((((((w.setCell ⟨b, 0, none⟩ (.int .i64 2)).setCell ⟨b, 1, none⟩ (.bool neg)).setCell ⟨b, 2, none⟩ (.slice a k c)).setCell ⟨b, 3, none⟩ (.int .u64 0)).setCell ⟨b, 4, none⟩ (.string ByteArray.empty)).setCell ⟨b, 5, none⟩ (.slice none 0 0)) B v m := by
  have s0 := h.far hk (by simp [zeroVal, bv]) 0 (.int .i64 2)
  have k0 := hk.set 0 (.int .i64 2)
  have s1 := s0.far k0 (by simp [zeroVal, bv]) 1 (.bool neg)
  have k1 := k0.set 1 (.bool neg)
  have s2 := s1.far k1 (by simp [zeroVal, bv]) 2 (.slice a k c)
  have k2 := k1.set 2 (.slice a k c)
  have s3 := s2.far k2 (by simp [zeroVal, bv]) 3 (.int .u64 0)
  have k3 := k2.set 3 (.int .u64 0)
  have s4 := s3.far k3 (by simp [zeroVal, bv]) 4 (.string ByteArray.empty)
  have k4 := k3.set 4 (.string ByteArray.empty)
  exact s4.far k4 (by simp [zeroVal, bv]) 5 (.slice none 0 0)

theorem whole_fin {w w2 : World} {S : Nat} {i : Int} {most : Nat} {n1 n2 : Bool} {a1 a2 : Option Addr} {k1 c1 k2 c2 : Nat} (hi : i.natAbs < 256 ^ most)
    (hx : Sp w2 w2.heap.size (.agg #[.bool n1, .slice a1 k1 c1]) i) (hv : By w2 w2.heap.size (.slice a2 k2 c2) i.natAbs) (hn : n2 = decide (i < 0))
    (b6 : Blk w2 S 24 [.bool false, .slice none 0 0]) (b7 : Blk w2 (S + 1) 28 zeroVal) (hb : Below w.heap.size w w2) (hS : w.heap.size = S) :
    PairPost most w (.returned (.tuple #[.agg #[.bool n1, .slice a1 k1 c1], .agg #[.int .i64 2, .bool n2, .slice a2 k2 c2, .int .u64 0, .string ByteArray.empty, .slice none 0 0]]))
      (((((((((w2.setCell ⟨S, 0, none⟩ (.bool n1)).setCell ⟨S, 1, none⟩ (.slice a1 k1 c1))).setCell ⟨S + 1, 0, none⟩ (.int .i64 2)).setCell ⟨S + 1, 1, none⟩ (.bool n2)).setCell ⟨S + 1, 2, none⟩ (.slice a2 k2 c2)).setCell ⟨S + 1, 3, none⟩ (.int .u64 0)).setCell ⟨S + 1, 4, none⟩ (.string ByteArray.empty)).setCell ⟨S + 1, 5, none⟩ (.slice none 0 0)) := by
  have h1 := hx.store (w := w) b6 (by simp [bv]) hb (by omega)
  have v1 := hv.far b6 (by simp [bv]) 0 (.bool n1)
  have v2 := v1.far (b6.set 0 (.bool n1)) (by simp [bv]) 1 (.slice a1 k1 c1)
  have b7' : Blk ((w2.setCell ⟨S, 0, none⟩ (.bool n1)).setCell ⟨S, 1, none⟩ (.slice a1 k1 c1)) (S + 1) 28 zeroVal := (b7.far (p := ⟨S, 0, none⟩) (by simp) _).far (p := ⟨S, 1, none⟩) (by simp) _
  obtain ⟨v, he, hva, hbl⟩ := Va.store (w := w) (w2 := (w2.setCell ⟨S, 0, none⟩ (.bool n1)).setCell ⟨S, 1, none⟩ (.slice a1 k1 c1)) (i := i) (neg := n2) (by simpa [World.setCell] using v2) hn b7' h1.2 (by omega)
  injection he with he
  subst he
  obtain ⟨mag, hm, hy⟩ := h1.1
  refine ⟨i, n1, n2, a1, a2, k1, c1, k2, c2, hi, rfl, ⟨mag, hm, ?_⟩, hva, hbl⟩
  have := hy.farVal (neg := n2) (a := a2) (k := k2) (c := c2) b7'
  simpa [World.setCell] using this

set_option maxHeartbeats 6400000 in
theorem lawsWhole_any (neg : Bool) (ms : List Nat) (v : Value) (most : Nat) (w : World) (hms : ∀ x ∈ ms, x < 256) (hs : Sl w w.heap.size v (ms.map bv)) (hlen : ms.length ≤ 2147483647) (hmost : most ≤ 4096) :
    Calls Tryz.prog 4 #[.bool neg, v, .int .i64 most] w (PairPost most w) := by
  obtain ⟨K, hK⟩ : ∃ K, K = min ms.length most := ⟨_, rfl⟩
  obtain ⟨a, c, rfl, hc, hr⟩ := id hs
  simp only [List.length_map] at hs hc ⊢
  have hKl : K ≤ ms.length := by omega
  have hKm : K ≤ most := by omega
  have hmin : (if (ms.length : Int) ≤ (most : Int) then (ms.length : Int) else (most : Int)) = (K : Int) := by split <;> omega
  have SRC := hs.head K (by simpa using hKl)
  rw [← List.map_take] at SRC
  obtain ⟨W, hW⟩ : ∃ W, W = (w.alloc (.cells #[.bool false, .slice none 0 0] 24)).alloc (.cells zeroVal.toArray 28) := ⟨_, rfl⟩
  have hWb : Below w.heap.size w W := by rw [hW]; exact ((Below.refl _ _).alloc (Nat.le_refl _) _).alloc (by simp) _
  have hW6 : Blk W w.heap.size 24 [.bool false, .slice none 0 0] := by rw [hW]; exact (Blk.new w _ [.bool false, .slice none 0 0]).alloc _
  have hW7 : Blk W (w.heap.size + 1) 28 zeroVal := by
    rw [hW]
    have := Blk.new (w.alloc (.cells #[.bool false, .slice none 0 0] 24)) 28 zeroVal
    simpa using this
  have hlt : bval (ms.take K) < 256 ^ most := by
    have h1 := bval_lt (ms.take K) (fun x hx => hms x (List.mem_of_mem_take hx))
    rw [List.length_take, Nat.min_eq_left hKl] at h1
    exact lt_pow_of h1 hKm
  have C := of_any neg (ms.take K) _ W (fun x hx => hms x (List.mem_of_mem_take hx)) (by simp; omega) ((SRC.below hWb).more hWb.size)
  have CORE : Hid (Calls Tryz.prog 12 #[.bool neg, .slice a K c] W fun e w1 => ∃ (i : Int) (n1 : Bool) (a1 : Option Addr) (k1 c1 : Nat), e = .returned (.agg #[.bool n1, .slice a1 k1 c1]) ∧ i.natAbs < 256 ^ most ∧ Sp w1 w1.heap.size (.agg #[.bool n1, .slice a1 k1 c1]) i ∧
      Blk w1 w.heap.size 24 [.bool false, .slice none 0 0] ∧ Blk w1 (w.heap.size + 1) 28 zeroVal ∧ Below w.heap.size w w1) := Lib.hid (C.mono (by
    intro e w1 h
    obtain ⟨v, he, hsp, hb⟩ := h.sp
    obtain ⟨n1, a1, k1, c1, rfl⟩ := hsp.form
    refine ⟨_, n1, a1, k1, c1, he, ?_, hsp, hW6.below hb hW6.lt, hW7.below hb hW7.lt, hWb.trans (hb.mono hWb.size)⟩
    cases neg <;> simp <;> exact hlt))
  subst hW
  have hlm : 256 ^ most ≤ lim := by
    unfold lim
    exact Nat.pow_le_pow_right (by omega) (by rw [limW_eq]; omega)
  have HLM := Lib.hid hlm
  unfold zeroVal at CORE
  clear C SRC hWb hW6 hW7 hlt hms hs hlm hr hmin
  have cases3 : (ms.length < most ∧ ms.length = K) ∨ (most = ms.length ∧ ms.length = K) ∨ (most < ms.length ∧ most = K) := by omega
  clear hK hKl hKm
  rcases cases3 with ⟨hcase, rfl⟩ | ⟨hcase, rfl⟩ | ⟨hcase, rfl⟩
  all_goals
    go_enter Tryz.func4, Tryz.ntmps4
    go_wp2_with fail
    refine CORE.out.mono ?_
    rintro e w1 ⟨i, n1, a1, k1, c1, rfl, hi, hsp, b6, b7, hb1⟩
    have HI := Lib.hid hi
    have TOLD : Hid (Calls Tryz.prog 7 #[.agg #[.bool n1, .slice a1 k1 c1]] (w1.alloc (.cells #[.bool n1, .slice a1 k1 c1] 24)).drew fun e w2 => ∃ (n2 : Bool) (a2 : Option Addr) (k2 c2 : Nat), e = .returned (.agg #[.int .i64 2, .bool n2, .slice a2 k2 c2, .int .u64 0, .string ByteArray.empty, .slice none 0 0]) ∧
        Blk w2 w1.heap.size 24 [.bool n1, .slice a1 k1 c1] ∧ Blk w2 w.heap.size 24 [.bool false, .slice none 0 0] ∧ Blk w2 (w.heap.size + 1) 28 zeroVal ∧
        PairPost most w (.returned (.tuple #[.agg #[.bool n1, .slice a1 k1 c1], .agg #[.int .i64 2, .bool n2, .slice a2 k2 c2, .int .u64 0, .string ByteArray.empty, .slice none 0 0]]))
          (((((((((w2.setCell ⟨w.heap.size, 0, none⟩ (.bool n1)).setCell ⟨w.heap.size, 1, none⟩ (.slice a1 k1 c1))).setCell ⟨w.heap.size + 1, 0, none⟩ (.int .i64 2)).setCell ⟨w.heap.size + 1, 1, none⟩ (.bool n2)).setCell ⟨w.heap.size + 1, 2, none⟩ (.slice a2 k2 c2)).setCell ⟨w.heap.size + 1, 3, none⟩ (.int .u64 0)).setCell ⟨w.heap.size + 1, 4, none⟩ (.string ByteArray.empty)).setCell ⟨w.heap.size + 1, 5, none⟩ (.slice none 0 0))) := by
      have hbl : Below w1.heap.size w1 (w1.alloc (.cells #[.bool n1, .slice a1 k1 c1] 24)).drew := ((Below.refl _ _).alloc (Nat.le_refl _) _).drew
      have hnew : Blk (w1.alloc (.cells #[.bool n1, .slice a1 k1 c1] 24)).drew w1.heap.size 24 [.bool n1, .slice a1 k1 c1] := Blk.new w1 _ [.bool n1, .slice a1 k1 c1]
      refine (told_any _ i _ ((hsp.below hbl).more hbl.size) (Nat.lt_of_lt_of_le hi HLM.out)).mono ?_
      rintro e w2 ⟨v2, rfl, ⟨mag2, rfl, ms2, hm2, hs2⟩, hb2⟩
      obtain ⟨a2, c2, rfl, _⟩ := id hs2
      have hb12 : Below w1.heap.size w1 w2 := hbl.trans (hb2.mono hbl.size)
      have q6 := b6.below hb12 b6.lt
      have q7 := b7.below hb12 b7.lt
      exact ⟨_, a2, _, c2, rfl, hnew.below hb2 hnew.lt, q6, q7, whole_fin hi ((hsp.below hb12).more hb12.size) ⟨ms2, hm2, hs2⟩ rfl q6 q7 (hb1.trans (hb12.mono hb1.size)) rfl⟩
    clear hi hsp b6 b7 hb1
    unfold zeroVal at TOLD
    go_wp2_with fail
    go_region_with (go_at_call 7; refine TOLD.out.mono ?_; rintro e w2 ⟨n2, a2, k2, c2, rfl, q1, q6, q7, hfin⟩; have d0 : w2.cell? ⟨w.heap.size, 0, none⟩ = some (.bool false) := q6.cell 0 (by simp); have d1 : w2.cell? ⟨w.heap.size, 1, none⟩ = some (.slice none 0 0) := q6.cell 1 (by simp); have u0 : w2.cell? ⟨w.heap.size + 1, 0, none⟩ = some (.int .i64 0) := q7.cell 0 (by simp); have u1 : w2.cell? ⟨w.heap.size + 1, 1, none⟩ = some (.bool false) := q7.cell 1 (by simp); have u2 : w2.cell? ⟨w.heap.size + 1, 2, none⟩ = some (.slice none 0 0) := q7.cell 2 (by simp); have u3 : w2.cell? ⟨w.heap.size + 1, 3, none⟩ = some (.int .u64 0) := q7.cell 3 (by simp); have u4 : w2.cell? ⟨w.heap.size + 1, 4, none⟩ = some (.string ByteArray.empty) := q7.cell 4 (by simp); have u5 : w2.cell? ⟨w.heap.size + 1, 5, none⟩ = some (.slice none 0 0) := q7.cell 5 (by simp); have e0 : w2.cell? ⟨w1.heap.size, 0, none⟩ = some (.bool n1) := q1.cell 0 (by simp); have e1 : w2.cell? ⟨w1.heap.size, 1, none⟩ = some (.slice a1 k1 c1) := q1.cell 1 (by simp); have f0 := q7.free 0; have f1 := q7.free 1; have f2 := q7.free 2; have f3 := q7.free 3; have f4 := q7.free 4; have f5 := q7.free 5; have g0 := q6.free 0; have g1 := q6.free 1; have l1 := q1.lt; have l6 := q6.lt; have l7 := q7.lt; have F := Lib.hid hfin; clear q1 q6 q7 hfin)
    all_goals
      go_wp2_with fail
      refine bodyPost_ret (v := .tuple #[.agg #[.bool n1, .slice a1 k1 c1], .agg #[.int .i64 2, .bool n2, .slice a2 k2 c2, .int .u64 0, .string ByteArray.empty, .slice none 0 0]]) (by simp [results, Tryz.results4, go_sem, u0, u1, u2, u3, u4, u5, d0, d1]) rfl ?_
      exact F.out
end Go.Proofs.YtpcnmgldmnncoaaGreatDoor

namespace Go.Proofs.YtpcnmgldmnncoaaGreatDoor
open Go.RowKit Dig
set_option linter.unusedVariables false
set_option linter.unusedSimpArgs false
set_option maxRecDepth 100000

/-- c words, the first k of which are those of M -/
def wrow (c M k : Nat) : List Value := (dgs 18446744073709551616 k M).map wv ++ zs (.int .u64 0) (c - k)
theorem wrow_length (c M k : Nat) (h : k ≤ c) : (wrow c M k).length = c := by simp [wrow, dgs_length, zs_length]; omega
theorem wrow_zero (c M : Nat) : wrow c M 0 = zs (.int .u64 0) c := by simp [wrow, dgs]
theorem wrow_set (c M k : Nat) (h : k < c) : (wrow c M k).set k (wv (M / 18446744073709551616 ^ k % 18446744073709551616)) = wrow c M (k + 1) := by
  unfold wrow
  rw [dgs_snoc, List.set_append_right _ _ (by simp [dgs_length])]
  have e : c - k = (c - (k + 1)) + 1 := by omega
  simp only [List.length_map, dgs_length, Nat.sub_self, List.map_append, List.map_cons, List.map_nil, List.append_assoc, List.cons_append, List.nil_append]
  rw [e]
  rfl
theorem wrow_sl {w : World} {b c M k : Nat} (h : Blk w b 79 (wrow c M k)) (hk : k ≤ c) : Sl w w.heap.size (.slice (some ⟨b, 0, none⟩) k c) ((dgs 18446744073709551616 k M).map wv) := by
  have := Sl.mk (w := w) (b := b) (o := 0) (B := w.heap.size) (vs := (dgs 18446744073709551616 k M).map wv) (c := c) (h.rd (by rw [wrow_length c M k hk]; simpa [dgs_length] using hk) (fun i hi => by
    rw [Nat.zero_add]; unfold wrow
    rw [List.getD_eq_getElem?_getD, List.getD_eq_getElem?_getD, List.getElem?_append_left hi])) (by simpa [dgs_length] using hk) h.lt
  simpa [dgs_length] using this

def NtPost (m : Nat) (w : World) (e : Ending) (w' : World) : Prop := ∃ v, e = .returned v ∧ Nt w' w'.heap.size v m ∧ Below w.heap.size w w'

theorem bew_any (b o c : Nat) (xs : List Nat) (w : World) (hxs : ∀ x ∈ xs, x < 256) (hlen : xs.length = 8) (hc : 8 ≤ c) (h : Rd w b o (xs.map bv)) :
    Calls Tryz.prog 55 #[.slice (some ⟨b, o, none⟩) 8 c] w (U64Post (bval xs) w) := by
  have Q := Lib.hid (be64_any b o c xs w hxs hlen hc h)
  clear hxs hlen h
  go_enter Tryz.func55, Tryz.ntmps55
  go_wp2_with fail
  refine Q.out.mono ?_
  rintro e w' ⟨n, rfl, rfl⟩
  go_wp2_with fail
  go_ret
  exact ⟨n, rfl, rfl⟩

set_option maxHeartbeats 1600000 in
theorem setBytes_any (ms : List Nat) (buf : Value) (w : World) (hms : ∀ x ∈ ms, x < 256) (hs : Sl w w.heap.size buf (ms.map bv)) (hl : ms.length ≤ 1099511627776) :
    Calls Tryz.prog 42 #[.slice none 0 0, buf] w (NtPost (bval ms) w) := by
  obtain ⟨a, cb, rfl, hcb, hr⟩ := hs
  simp only [List.length_map, ne_eq, List.map_eq_nil_iff] at hcb hr ⊢
  by_cases h0 : ms = []
  · subst h0
    clear hr
    go_enter Tryz.func42, Tryz.ntmps42
    go_wp2_with fail
    refine (make_zero _).mono ?_
    rintro e w' ⟨rfl, rfl⟩
    go_wp2_with fail
    go_rounds 1
    go_rounds 1
    go_ret
    exact ⟨_, rfl, ⟨[], rep_zero, Sl.nil _ _⟩, Below.refl _ _⟩
  · obtain ⟨bb, ob, rfl, hbb, hrd⟩ := hr h0
    have hp : 0 < ms.length := List.length_pos_iff.2 h0
    obtain ⟨L, hL⟩ : ∃ L, L = ms.length := ⟨_, rfl⟩
    have HL : Hid (ms.length = L) := hL.symm
    obtain ⟨n, hn⟩ : ∃ n, n = (L + 8 - 1) / 8 := ⟨_, rfl⟩
    have hn1 : L ≤ 8 * n := by omega
    have hn2 : 8 * n ≤ L + 7 := by omega
    have hn0 : 0 < n := by omega
    have HR := Lib.hid hrd
    have HM := Lib.hid hms
    rw [← hL] at hp hcb hl ⊢
    have HN : Hid ((((L : Int) + 8 - 1) / 8) = (n : Int)) := by show _ = _; omega
    clear hr hrd hms h0 hL hn
    generalize hMM : bval ms = M at *
    have HMM := Lib.hid hMM
    clear hMM
    have hML : M < 18446744073709551616 ^ n := by
      rw [← HMM.out, pow_words]
      have := bval_lt ms HM.out
      rw [HL.out] at this
      exact lt_pow_of this hn1
    have core : ∀ (W : World) (c : Nat), n ≤ c → Blk W w.heap.size 79 (wrow c M n) → Calls Tryz.prog 56 #[.slice (some ⟨w.heap.size, 0, none⟩) n c] W fun e w' => ∃ k : Nat, e = .returned (.slice (some ⟨w.heap.size, 0, none⟩) k c) ∧ Nt W W.heap.size (.slice (some ⟨w.heap.size, 0, none⟩) k c) M ∧ W = w' := by
      intro W c hc hb
      have hsl := wrow_sl hb hc
      have hdl := dgs_length 18446744073709551616 n M
      have h := norm_any (dgs 18446744073709551616 n M) (some ⟨w.heap.size, 0, none⟩) c W.heap.size W (by rw [hdl]; exact hsl) (dgs_lt _ (by omega) _ _) (by omega)
      rw [hdl] at h
      refine h.mono ?_
      rintro e w' ⟨rfl, rfl⟩
      have hrep := strip_rep 18446744073709551616 (dgs 18446744073709551616 n M) (dgs_lt _ (by omega) _ _)
      rw [dgs_val_of _ _ _ hML] at hrep
      exact ⟨_, rfl, ⟨_, hrep, norm_sl (by rw [hdl]; exact hsl)⟩, rfl⟩
    have CORE := Lib.hid core
    clear core hML
    go_enter Tryz.func42, Tryz.ntmps42
    go_wp2_with fail
    rw [HN.out]
    refine (make_any n _ hn0 (by omega)).mono ?_
    rintro e w1 ⟨c, hc1, hc2, rfl, hw1⟩
    have hk1 : Blk w1 w.heap.size 79 (wrow c M 0) := by rw [wrow_zero, hw1]; exact Blk.new _ _ _
    have hb1 : Below w.heap.size w w1 := by rw [hw1]; exact (Below.refl _ _).alloc (Nat.le_refl _) _
    have HK1 := Lib.hid hk1
    have HB1 := Lib.hid hb1
    clear hw1 hk1 hb1
    go_wp2_with fail
    go_loopw [5, 6] (fun i j wr => ∃ k t : Nat, t + 8 * k ≤ L ∧ L ≤ t + 8 * k ∧ j = .int .i64 k ∧ i = .int .i64 t ∧ Hid (Blk wr w.heap.size 79 (wrow c M k)) ∧ Hid (Below w.heap.size w wr)) (fun i _ _ => (intOf i).toNat)
    case atStart => exact ⟨0, L, by omega, by omega, rfl, rfl, HK1, HB1⟩
    case round =>
      obtain ⟨k, t, ht1, ht2, rfl, rfl, hb, hw⟩ := hrel
      by_cases h8 : 8 ≤ t
      · have hkc : k < c := by omega
        have e1 := word_of_bytes ms HM.out k t (by rw [HL.out]; omega) h8
        rw [HMM.out] at e1
        have hchunk : Hid (∀ n : Nat, Calls Tryz.prog 55 #[.slice (some ⟨bb, ob + (t - 8), none⟩) 8 (cb - (t - 8))] wr (U64Post (bval ((ms.drop (t - 8)).take 8)) wr)) := fun n =>
          bew_any bb (ob + (t - 8)) (cb - (t - 8)) _ wr (fun x hx => HM.out x (List.mem_of_mem_drop (List.mem_of_mem_take hx))) (by have := HL.out; simp; omega) (by omega) (by
            have h1 := ((HR.out.below hw.out hbb).drop (t - 8)).take 8
            rwa [← List.map_drop, ← List.map_take] at h1)
        rw [e1] at hchunk
        have hcell := hb.out.cell k (by rw [wrow_length c M k (by omega)]; omega)
        have hf := hb.out.free k
        have hset := Lib.hid (wrow_set c M k hkc)
        generalize (wrow c M k).getD k undef = cv at *
        generalize M / 18446744073709551616 ^ k % 18446744073709551616 = y at *
        clear e1
        go_wp2_with fail
        rw [show t - (t - 8) = 8 from by omega]
        refine (hchunk.out 0).mono ?_
        rintro e w2 ⟨nq, rfl, rfl⟩
        go_wp2_with fail
        go_roundw
        case rel =>
          refine ⟨k + 1, t - 8, by omega, by omega, by go_num, by go_num, Lib.hid ?_, Lib.hid ((below_drewN hw.out nq).setCell (Nat.le_refl _) _)⟩
          have := (hb.out.drewN nq).set k (wv y)
          rw [hset.out] at this
          exact this
        case measure => simp [intOf]; omega
      · have etop := top_of_bytes ms HM.out k t (by rw [HL.out]; omega)
        rw [HMM.out] at etop
        have hy : M / 18446744073709551616 ^ k < 256 ^ t := by
          rw [← etop]
          have := bval_lt (ms.take t) (fun x hx => HM.out x (List.mem_of_mem_take hx))
          have e := HL.out
          rwa [List.length_take, Nat.min_eq_left (by omega)] at this
        by_cases ht0 : t = 0
        · subst ht0
          have hkn : k = n := by omega
          subst hkn
          clear etop hy
          go_wp2_with fail
          refine (CORE.out wr c hc1 hb.out).mono ?_
          rintro e w' ⟨q, rfl, hnt, rfl⟩
          have HNT := Lib.hid hnt
          clear hnt
          go_wp2_with fail
          go_ret
          exact ⟨_, rfl, HNT.out, hw.out⟩
        · have hkn : k + 1 = n := by omega
          have hk1 : k = n - 1 := by omega
          have ET := Lib.hid etop
          have hy2 : M / 18446744073709551616 ^ k < 18446744073709551616 := by
            have : (256 : Nat) ^ t ≤ 256 ^ 8 := Nat.pow_le_pow_right (by omega) (by omega)
            have e8 : (256 : Nat) ^ 8 = 18446744073709551616 := by decide
            omega
          have hset := Lib.hid (wrow_set c M k (by omega))
          have hbyte := Lib.hid (fun j (hj : j < t) => by
            have := byte_up ms HM.out t j (by rw [HL.out]; omega) hj
            rw [etop] at this
            exact this)
          have HY := Lib.hid hy
          have HY2 := Lib.hid hy2
          clear etop hy hy2
          generalize M / 18446744073709551616 ^ k = Y at *
          go_wp2_with fail
          obtain ⟨wo, rfl⟩ : ∃ wo : World, wo = wr := ⟨_, rfl⟩
          go_loop [5, 7, 8] (fun i d s => ∃ j r : Nat, r + j ≤ t ∧ t ≤ r + j ∧ i = .int .i64 r ∧ d = .int .u64 ((Y % 256 ^ j : Nat) : Int) ∧ s = .int .u64 (8 * (j : Int))) (fun i _ _ => (intOf i).toNat)
          case atStart => exact ⟨0, t, by omega, by omega, rfl, by simp [Nat.mod_one], rfl⟩
          case round =>
            obtain ⟨j, r, hj1, hj2, rfl, rfl, rfl⟩ := hrel
            by_cases hr0 : 0 < r
            · have hcell := (HR.out.below hw.out hbb) (r - 1) (by have := HL.out; simp; omega)
              rw [getD_map_bv ms (r - 1) (by have := HL.out; omega)] at hcell
              have hx : ms.getD (r - 1) 0 < 256 := HM.out _ (by rw [List.getD_eq_getElem?_getD, List.getElem?_eq_getElem (by have := HL.out; omega)]; simp)
              have hup := Lib.hid (show Y % 256 ^ (j + 1) = Y % 256 ^ j + 256 ^ j * ms.getD (r - 1) 0 by
                have := hbyte.out j (by omega)
                rwa [show t - j - 1 = r - 1 by omega] at this)
              generalize ms.getD (r - 1) 0 = x at *
              have hd : Y % 256 ^ j < 18446744073709551616 := Nat.lt_of_le_of_lt (Nat.mod_le _ _) HY2.out
              have hd2 := Lib.hid (show Y % 256 ^ j < 256 ^ j from Nat.mod_lt _ (Nat.pow_pos (by omega)))
              generalize Y % 256 ^ j = d at *
              have hor := Lib.hid (or_up j d x (by omega) hd2.out hx)
              go_wp2
              go_round
              case rel =>
                refine ⟨j + 1, r - 1, by omega, by omega, by go_num, ?_, by go_num⟩
                rw [hor.out, hup.out]
              case measure => simp [intOf]; omega
            · obtain rfl : r = 0 := by omega
              obtain rfl : j = t := by omega
              have hYt := HY.out
              rw [Nat.mod_eq_of_lt hYt]
              have hcell := hb.out.cell k (by rw [wrow_length c M k (by omega)]; omega)
              have hf := hb.out.free k
              have hYm : Y % 18446744073709551616 = Y := Nat.mod_eq_of_lt HY2.out
              rw [hYm] at hset
              have e1 : k = n - 1 := hk1
              subst e1
              clear hYt hYm hk1 hkn
              generalize (wrow c M (n - 1)).getD (n - 1) undef = cv at *
              go_wp2_with fail
              have hb2 : Blk (wo.setCell ⟨w.heap.size, n - 1, none⟩ (wv Y)) w.heap.size 79 (wrow c M n) := by
                have := hb.out.set (n - 1) (wv Y)
                rw [hset.out] at this
                rwa [show n - 1 + 1 = n by omega] at this
              refine (CORE.out _ c hc1 hb2).mono ?_
              rintro e w' ⟨q, rfl, hnt, rfl⟩
              have HNT := Lib.hid hnt
              clear hnt hb2
              go_wp2_with fail
              go_ret
              exact ⟨_, rfl, HNT.out, hw.out.setCell (Nat.le_refl _) _⟩
end Go.Proofs.YtpcnmgldmnncoaaGreatDoor
