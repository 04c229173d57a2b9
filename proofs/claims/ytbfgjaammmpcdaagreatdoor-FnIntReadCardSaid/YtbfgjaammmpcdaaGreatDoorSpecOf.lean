/- spec.bytesOf, spec.cut, spec.Of, spec.Small: the reference's integers, by the number that they stand for. -/
import Derived.Test.YtbfgjaammmpcdaaGreatDoorRows
import Derived.Test.YtbfgjaammmpcdaaGreatDoorMBase
namespace Go.Proofs.YtbfgjaammmpcdaaGreatDoor
open Go.RowKit Dig
set_option linter.unusedVariables false
set_option linter.unusedSimpArgs false
set_option maxRecDepth 100000

theorem info8 : (Tryz.prog.info? 5).map (fun i => (i.zero, i.size, i.bytes)) = some (some (.int .u8 0), 1, 1) := by kernel_rfl

/-- cut: bytes without the zeros ahead -/
def CutPost (m : Nat) (n : Nat) (w : World) (e : Ending) (w' : World) : Prop :=
  ∃ v ms, e = .returned v ∧ Bytes ms m ∧ ms.length ≤ n ∧ Sl w' w'.heap.size v (ms.map bv) ∧ Below w.heap.size w w'

set_option maxHeartbeats 400000 in
theorem cut_any (ms : List Nat) (v : Value) (w : World) (hms : ∀ x ∈ ms, x < 256) (hlen : ms.length ≤ 70368744177664) (h : Sl w w.heap.size v (ms.map bv)) :
    Calls Tryz.prog 18 #[v] w (CutPost (bval ms) ms.length w) := by
  obtain ⟨i0, hi0, hz0, hz1, hz2⟩ := info_parts info8
  obtain ⟨a, c, rfl, hc, hr⟩ := h
  simp only [List.length_map] at hc hr
  have hr' : ms ≠ [] → ∃ b o, a = some ⟨b, o, none⟩ ∧ b < w.heap.size ∧ Rd w b o (ms.map bv) := fun hne => hr (by simpa using hne)
  have HS : Hid (Sl w w.heap.size (.slice a ms.length c) (ms.map bv)) := ⟨a, c, by simp, by simpa using hc, hr⟩
  clear hr
  simp only [List.length_map]
  go_enter Tryz.func18, Tryz.ntmps18
  go_wp2
  go_loop [3] (fun i => ∃ k : Nat, k ≤ ms.length ∧ i = .int .i64 k ∧ Hid (∀ j, j < k → ms.getD j 0 = 0)) (fun i => ms.length - (intOf i).toNat)
  case atStart => exact ⟨0, Nat.zero_le _, rfl, Lib.hid (fun j hj => absurd hj (by omega))⟩
  case round =>
    obtain ⟨k, hk, rfl, hz⟩ := hrel
    by_cases hlt : k < ms.length
    · obtain ⟨b, o, rfl, hb, hrd⟩ := hr' (by intro h0; subst h0; simp at hlt)
      have hcell := hrd k (by simpa using hlt)
      rw [getD_map_bv ms k hlt] at hcell
      have hx : ms.getD k 0 < 256 := hms _ (by rw [List.getD_eq_getElem?_getD, List.getElem?_eq_getElem hlt]; simp)
      have HR := Lib.hid hrd; clear hrd
      clear hr'
      by_cases h0 : ms.getD k 0 = 0
      · have H0 := Lib.hid h0
        rw [h0] at hcell
        clear h0 hx
        go_wp2
        go_round
        case rel => exact ⟨k + 1, by omega, by go_num, Lib.hid (fun j hj => by
          by_cases e : j = k
          · subst e; exact H0.out
          · exact hz.out j (by omega))⟩
        case measure => simp [intOf]; omega
      · have h1 : (((ms.getD k 0 : Nat) : Int) == 0) = false := by simpa using h0
        have H0 := Lib.hid h0; clear h0
        generalize hg : ms.getD k 0 = x at *
        have HG := Lib.hid hg; clear hg
        have hck : ¬ c = k := by omega
        have hcut := HS.out.cut k (by simpa using hk)
        have hcb := cut_bytes ms hms k hk hz.out (.inr (by rw [HG.out]; exact H0.out))
        rw [if_neg hck] at hcut
        have hsl : Sl (w.alloc (.cells #[] 5)) w.heap.size (.slice (some ⟨b, o + k, none⟩) (ms.length - k) (c - k)) ((ms.drop k).map bv) := by
          simpa [add_zero_off] using (hcut.below ((Below.refl _ w).alloc (Nat.le_refl _) (.cells #[] 5)))
        have HC := Lib.hid hsl; clear hcut hsl
        have HB := Lib.hid hcb; clear hcb
        have H1 := Lib.hid (show 0 + ((ms.drop k).map bv).length ≤ maxLen by simp [maxLen]; omega)
        have H2 := Lib.hid (show (0 + ((ms.drop k).map bv).length) * 1 ≤ 140737488355328 by simp; omega)
        have H3 := Lib.hid (show w.heap.size ≤ (w.alloc (.cells #[] 5)).heap.size by simp)
        go_wp2_with (at_builtin; refine wpList_append_sl _ rfl (.tmp 17) (.tmp 20) 22 rfl w.heap.size 5 i0 _ 1 Tryz.underlying22 hi0 hz0 hz1 hz2 rfl _ 0 [] rfl (World.ownsRow_lit w #[] 0 (Nat.le_refl _) (by simp [maxLen]) rfl) w.heap.size _ (((ms.drop k).map bv)) rfl HC.out (oneCell_bv _) H1.out H2.out H3.out ?_; intro v' w1 hown hg; have HO := Lib.hid hown; clear hown; have HG1 := Lib.hid hg; clear hg)
        go_ret
        refine ⟨v', ms.drop k, rfl, HB.out, by simp, ?_, ((Below.refl _ w).alloc (Nat.le_refl _) _).grown HG1.out (by simp) (fun q hq => Nat.le_of_eq (Option.some.inj hq))⟩
        exact Sl.of_own (base := w.heap.size) (e := 5) (by simpa using HO.out)
    · obtain rfl : k = ms.length := by omega
      have hcb := cut_bytes ms hms ms.length (Nat.le_refl _) hz.out (.inl rfl)
      rw [List.drop_length] at hcb
      have HB := Lib.hid hcb; clear hcb
      have H1 := Lib.hid (show 0 + ([] : List Value).length ≤ maxLen by simp)
      have H2 := Lib.hid (show (0 + ([] : List Value).length) * 1 ≤ 140737488355328 by simp)
      have H3 := Lib.hid (show w.heap.size ≤ (w.alloc (.cells #[] 5)).heap.size by simp)
      have h1n := Lib.hid (show ∀ u ∈ ([] : List Value), u.oneCell' = true by simp)
      clear hr'
      by_cases hck : c = ms.length
      · subst hck
        go_wp2_with (at_builtin; refine wpList_append_sl _ rfl (.tmp 17) (.tmp 20) 22 rfl w.heap.size 5 i0 _ 1 Tryz.underlying22 hi0 hz0 hz1 hz2 rfl _ 0 [] rfl (World.ownsRow_lit w #[] 0 (Nat.le_refl _) (by simp [maxLen]) rfl) w.heap.size _ [] rfl (Sl.empty _ _ _ _) h1n.out H1.out H2.out H3.out ?_; intro v' w1 hown hg; have HO := Lib.hid hown; clear hown; have HG1 := Lib.hid hg; clear hg)
        go_ret
        refine ⟨v', [], rfl, HB.out, by simp, ?_, ((Below.refl _ w).alloc (Nat.le_refl _) _).grown HG1.out (by simp) (fun q hq => Nat.le_of_eq (Option.some.inj hq))⟩
        exact Sl.of_own (base := w.heap.size) (e := 5) (by simpa using HO.out)
      · go_wp2_with (at_builtin; refine wpList_append_sl _ rfl (.tmp 17) (.tmp 20) 22 rfl w.heap.size 5 i0 _ 1 Tryz.underlying22 hi0 hz0 hz1 hz2 rfl _ 0 [] rfl (World.ownsRow_lit w #[] 0 (Nat.le_refl _) (by simp [maxLen]) rfl) w.heap.size _ [] rfl (Sl.empty _ _ _ _) h1n.out H1.out H2.out H3.out ?_; intro v' w1 hown hg; have HO := Lib.hid hown; clear hown; have HG1 := Lib.hid hg; clear hg)
        go_ret
        refine ⟨v', [], rfl, HB.out, by simp, ?_, ((Below.refl _ w).alloc (Nat.le_refl _) _).grown HG1.out (by simp) (fun q hq => Nat.le_of_eq (Option.some.inj hq))⟩
        exact Sl.of_own (base := w.heap.size) (e := 5) (by simpa using HO.out)

/-- Of: the integer of a sign and of any bytes -/
def OfPost (m : Nat) (neg : Bool) (w : World) (e : Ending) (w' : World) : Prop :=
  ∃ v ms, e = .returned (.agg #[.bool (neg && decide (0 < m)), v]) ∧ Bytes ms m ∧ Sl w' w'.heap.size v (ms.map bv) ∧ Below w.heap.size w w'
theorem of_any (neg : Bool) (ms : List Nat) (v : Value) (w : World) (hms : ∀ x ∈ ms, x < 256) (hlen : ms.length ≤ 70368744177664) (h : Sl w w.heap.size v (ms.map bv)) :
    Calls Tryz.prog 6 #[.bool neg, v] w (OfPost (bval ms) neg w) := by
  have HM := Lib.hid hms
  have HS : Hid (Sl (w.alloc (.cells #[.bool false, .slice none 0 0] 24)) (w.alloc (.cells #[.bool false, .slice none 0 0] 24)).heap.size v (ms.map bv)) :=
    (h.below ((Below.refl _ _).alloc (Nat.le_refl _) _)).more (by simp)
  clear hms h
  go_enter Tryz.func6, Tryz.ntmps6
  go_wp2_with fail
  refine (cut_any ms v _ HM.out hlen HS.out).mono ?_
  rintro e w1 ⟨v1, ns, rfl, hB, hl, hS, hb⟩
  have hpos := Bytes.nil_iff hB
  obtain ⟨a, c, rfl, hc, hr⟩ := id hS
  have HSS := Lib.hid hS; clear hS
  have HB := Lib.hid hB; clear hB
  have hk : Blk w1 w.heap.size 24 [.bool false, .slice none 0 0] := (Blk.new w 24 [.bool false, .slice none 0 0]).below hb (by simp)
  have c0 : w1.cell? ⟨w.heap.size, 0, none⟩ = some (.bool false) := hk.cell 0 (by simp)
  have c1 : w1.cell? ⟨w.heap.size, 1, none⟩ = some (.slice none 0 0) := hk.cell 1 (by simp)
  have f0 := hk.free 0
  have f1 := hk.free 1
  have hlt := hk.lt
  have hbel : Below w.heap.size w w1 := ((Below.refl _ w).alloc (Nat.le_refl _) (.cells #[.bool false, .slice none 0 0] 24)).trans (hb.mono (by simp))
  have HBL := Lib.hid hbel; have HK := Lib.hid hk
  clear hbel hk hb hr
  have FIN : Hid (∀ x : Bool, x = (neg && decide (0 < bval ms)) → OfPost (bval ms) neg w (.returned (.agg #[.bool x, .slice a (ns.map bv).length c])) ((w1.setCell ⟨w.heap.size, 0, none⟩ (.bool x)).setCell ⟨w.heap.size, 1, none⟩ (.slice a (ns.map bv).length c))) := by
    intro x hx
    subst hx
    have hb1 := (HBL.out.setCell (p := ⟨w.heap.size, 0, none⟩) (Nat.le_refl _) (.bool (neg && decide (0 < bval ms)))).setCell (p := ⟨w.heap.size, 1, none⟩) (Nat.le_refl _) (.slice a (ns.map bv).length c)
    refine ⟨_, ns, rfl, HB.out, ?_, hb1⟩
    have s1 := HSS.out.far HK.out (not_bv (by simp [bv]) ns) 0 (.bool (neg && decide (0 < bval ms)))
    have s2 := s1.far (HK.out.set 0 _) (not_bv (by simp [bv]) ns) 1 (.slice a (ns.map bv).length c)
    simpa [World.setCell] using s2
  simp only [List.length_map] at FIN ⊢
  cases neg with
  | false =>
    go_wp2_with fail
    refine bodyPost_ret (v := .agg #[.bool false, .slice a ns.length c]) (by simp [results, Tryz.results6, go_sem, c0, c1]) rfl ?_
    exact FIN.out false rfl
  | true =>
    by_cases h0 : 0 < ns.length
    · have e1 : (true && decide (0 < bval ms)) = true := by
        have : ¬ bval ms = 0 := fun h => by rw [hpos.2 h] at h0; simp at h0
        simp; omega
      have E1 := Lib.hid e1
      clear hpos e1
      go_wp2_with fail
      refine bodyPost_ret (v := .agg #[.bool true, .slice a ns.length c]) (by simp [results, Tryz.results6, go_sem, c0, c1]) rfl ?_
      exact FIN.out true E1.out.symm
    · obtain rfl : ns = [] := List.eq_nil_of_length_eq_zero (by omega)
      have e1 : (true && decide (0 < bval ms)) = false := by
        rw [hpos.1 rfl]; rfl
      have E1 := Lib.hid e1
      clear hpos e1
      go_wp2_with fail
      refine bodyPost_ret (v := .agg #[.bool false, .slice a 0 c]) (by simp [results, Tryz.results6, go_sem, c0, c1]) rfl ?_
      exact FIN.out false E1.out.symm

theorem OfPost.sp {m : Nat} {neg : Bool} {w w' : World} {e : Ending} (h : OfPost m neg w e w') : ∃ v, e = .returned v ∧ Sp w' w'.heap.size v (if neg then -(m : Int) else m) ∧ Below w.heap.size w w' := by
  obtain ⟨v, ms, he, hb, hs, hw⟩ := h
  refine ⟨_, he, ⟨v, ?_, ms, ?_, hs⟩, hw⟩
  · cases neg <;> simp <;> omega
  · cases neg <;> simpa using hb

/-- Small: the integer of a number -/
def SpPost (i : Int) (w : World) (e : Ending) (w' : World) : Prop := ∃ v, e = .returned v ∧ Sp w' w'.heap.size v i ∧ Below w.heap.size w w'
/-- a spec.Int stored into a variable of its own -/
theorem Sp.store {w w2 : World} {b : Nat} {x y p q : Value} {i : Int} (h : Sp w2 w2.heap.size (.agg #[x, y]) i) (hk : Blk w2 b 24 [p, q]) (hp : ∀ u ∈ [p, q], ∀ m, u ≠ bv m) (hb : Below w.heap.size w w2) (hlt : w.heap.size ≤ b) :
    Sp ((w2.setCell ⟨b, 0, none⟩ x).setCell ⟨b, 1, none⟩ y) ((w2.setCell ⟨b, 0, none⟩ x).setCell ⟨b, 1, none⟩ y).heap.size (.agg #[x, y]) i ∧
    Below w.heap.size w ((w2.setCell ⟨b, 0, none⟩ x).setCell ⟨b, 1, none⟩ y) := by
  refine ⟨?_, (hb.setCell (p := ⟨b, 0, none⟩) hlt x).setCell (p := ⟨b, 1, none⟩) hlt y⟩
  obtain ⟨mag, hv, ms, hm, hs⟩ := h
  simp only [Value.agg.injEq, Array.mk.injEq, List.cons.injEq, and_true] at hv
  obtain ⟨rfl, rfl⟩ := hv
  obtain ⟨a, c, rfl, hc, hr⟩ := id hs
  refine ⟨_, rfl, ms, hm, ?_⟩
  have s1 := hs.far hk (not_bv hp ms) 0 (.bool (decide (i < 0)))
  have s2 := s1.far (hk.set 0 _) (not_bv (by
    intro u hu m
    simp only [List.set_cons_zero, List.mem_cons, List.not_mem_nil, or_false] at hu
    rcases hu with rfl | rfl
    · simp [bv]
    · exact hp _ (by simp) m) ms) 1 (.slice a (ms.map bv).length c)
  simpa [World.setCell] using s2

/-- out of 8 bytes the last 8 - k are written -/
def eight (u k : Nat) : List Value := (List.replicate k 0 ++ (dgs 256 (8 - k) u).reverse).map bv
theorem eight_length (u k : Nat) (hk : k ≤ 8) : (eight u k).length = 8 := by simp [eight, dgs_length]; omega
theorem eight_set (u k : Nat) (hk : k ≤ 8) (h1 : 1 ≤ k) : (eight u k).set (k - 1) (bv (u / 256 ^ (8 - k) % 256)) = eight u (k - 1) := by
  unfold eight
  have e : 8 - (k - 1) = 8 - k + 1 := by omega
  rw [e, dgs_snoc, List.reverse_append]
  have e2 : List.replicate k 0 = List.replicate (k - 1) 0 ++ [0] := by
    rw [← List.replicate_succ']; congr 1; omega
  rw [e2]
  simp only [List.map_append, List.map_replicate, List.map_cons, List.map_nil, List.reverse_cons, List.reverse_nil, List.nil_append, List.append_assoc, List.cons_append]
  rw [List.set_append_right _ _ (by simp), List.length_replicate, Nat.sub_self]
  rfl

theorem make8 (w : World) : (Instr.makeSlice 22 (.int .i64 8) (.int .i64 8)).run Tryz.prog w = .ok (.slice (some ⟨w.heap.size, 0, none⟩) 8 8) (w.alloc (.cells (eight 0 8).toArray 5)) := by kernel_rfl

def B8Post (u : Nat) (w : World) (e : Ending) (w' : World) : Prop :=
  ∃ b, e = .returned (.slice (some ⟨b, 0, none⟩) 8 8) ∧ Blk w' b 5 (eight u 0) ∧ Below w.heap.size w w'
set_option maxHeartbeats 400000 in
theorem bytesOf_any (u : Nat) (w : World) (hu : u < 18446744073709551616) : Calls Tryz.prog 21 #[.int .u64 u] w (B8Post u w) := by
  have hmk := make8
  have hB0 : Blk (w.alloc (.cells (eight 0 8).toArray 5)) w.heap.size 5 (eight 0 8) := Blk.new _ _ _
  have e0 : eight 0 8 = eight u 8 := rfl
  rw [e0] at hB0
  have HB0 := Lib.hid hB0
  have HU := Lib.hid hu
  clear hB0 e0 hu
  go_enter Tryz.func21, Tryz.ntmps21
  go_wp2
  go_loopw [0, 4] (fun q i wr => ∃ k : Nat, k ≤ 8 ∧ i = .int .i64 ((k : Int) - 1) ∧ q = .int .u64 ((u / 256 ^ (8 - k) : Nat) : Int) ∧ Hid (Blk wr w.heap.size 5 (eight u k)) ∧ Below w.heap.size w wr) (fun _ i _ => (intOf i + 1).toNat)
  case atStart => exact ⟨8, Nat.le_refl _, rfl, by simp, HB0, (Below.refl _ _).alloc (Nat.le_refl _) _⟩
  case round =>
    obtain ⟨k, hk, rfl, rfl, hb, hw⟩ := hrel
    by_cases h1 : 1 ≤ k
    · have hc := hb.out.cell (k - 1) (by rw [eight_length _ _ hk]; omega)
      have hf := hb.out.free (k - 1)
      have hq : u / 256 ^ (8 - k) < 18446744073709551616 := Nat.lt_of_le_of_lt (Nat.div_le_self _ _) HU.out
      have hset := Lib.hid (eight_set u k hk h1)
      have e2 := Lib.hid (show u / 256 ^ (8 - k) / 256 = u / 256 ^ (8 - (k - 1)) by
        rw [Nat.div_div_eq_div_mul, ← Nat.pow_succ]; congr 2; omega)
      generalize (eight u k).getD (k - 1) undef = cv at *
      generalize u / 256 ^ (8 - k) = q at *
      go_wp2
      go_roundw
      case rel =>
        refine ⟨k - 1, by omega, by go_num, by rw [← e2.out]; rfl, Lib.hid ?_, hw.setCell (Nat.le_refl _) _⟩
        have := hb.out.set (k - 1) (bv (q % 256))
        rw [hset.out] at this
        exact this
      case measure => simp [intOf]; omega
    · obtain rfl : k = 0 := by omega
      go_wp2
      go_ret
      exact ⟨_, rfl, hb.out, hw⟩

theorem eight_zero (u : Nat) : eight u 0 = (dgs 256 8 u).reverse.map bv := by simp [eight]

theorem eight_sl {w : World} {b u : Nat} (h : Blk w b 5 (eight u 0)) : Sl w w.heap.size (.slice (some ⟨b, 0, none⟩) 8 8) (((dgs 256 8 u).reverse).map bv) := by
  rw [eight_zero] at h
  have := Sl.mk (w := w) (b := b) (o := 0) (B := w.heap.size) (vs := ((dgs 256 8 u).reverse).map bv) (c := 8) (h.rd (by simp) (fun i _ => by rw [Nat.zero_add])) (by simp [dgs_length]) h.lt
  simpa [dgs_length] using this
theorem eight_val (u : Nat) (hu : u < 18446744073709551616) : bval ((dgs 256 8 u).reverse) = u := by
  unfold bval
  rw [List.reverse_reverse, dgs_val_of _ _ _ (by simpa using hu)]
theorem eight_lt (u : Nat) : ∀ x ∈ (dgs 256 8 u).reverse, x < 256 := fun x hx => dgs_lt 256 (by omega) 8 u x (by simpa using hx)

set_option maxHeartbeats 400000 in
theorem small_any (n : Int) (w : World) (h1 : -9223372036854775808 ≤ n) (h2 : n ≤ 9223372036854775807) : Calls Tryz.prog 10 #[.int .i64 n] w (SpPost n w) := by
  have core : ∀ (neg : Bool) (w1 : World), (neg = decide (n < 0)) → Below w.heap.size w w1 → Blk w1 w.heap.size 24 [.bool false, .slice none 0 0] → ∀ (b : Nat), Blk w1 b 5 (eight n.natAbs 0) →
      Calls Tryz.prog 6 #[.bool neg, .slice (some ⟨b, 0, none⟩) 8 8] w1 fun e w2 => ∃ (x : Bool) (a : Option Addr) (k c : Nat), e = .returned (.agg #[.bool x, .slice a k c]) ∧ Sp w2 w2.heap.size (.agg #[.bool x, .slice a k c]) n ∧ Blk w2 w.heap.size 24 [.bool false, .slice none 0 0] ∧ Below w.heap.size w w2 := by
    intro neg w1 hneg hb hk b h8
    refine (of_any neg _ _ w1 (eight_lt n.natAbs) (by simp [dgs_length]) (eight_sl h8)).mono ?_
    intro e w2 h
    obtain ⟨v, he, hsp, hbl⟩ := h.sp
    rw [eight_val _ (by omega)] at hsp
    have e2 : (if neg then -((n.natAbs : Nat) : Int) else ((n.natAbs : Nat) : Int)) = n := by
      subst hneg
      by_cases h : n < 0 <;> simp [h] <;> omega
    rw [e2] at hsp
    obtain ⟨x, a, k, c, rfl⟩ := hsp.form
    exact ⟨x, a, k, c, he, hsp, hk.below hbl hk.lt, hb.trans (hbl.mono hb.size)⟩
  have CORE := Lib.hid core
  clear core
  by_cases hn : n < 0
  · have e1 : IntKind.u64.wrap (-IntKind.u64.wrap n) = ((n.natAbs : Nat) : Int) := by rw [IntKind.wrap_u64, IntKind.wrap_u64]; omega
    have E1 := Lib.hid e1; clear e1
    have E2 := Lib.hid (show n.natAbs < 18446744073709551616 by omega)
    have E3 := Lib.hid (show true = decide (n < 0) by simpa using hn)
    go_enter Tryz.func10, Tryz.ntmps10
    go_wp2_with fail
    rw [E1.out]
    refine (bytesOf_any _ _ E2.out).mono ?_
    rintro e w1 ⟨b, rfl, h8, hb⟩
    have hk : Blk w1 w.heap.size 24 [.bool false, .slice none 0 0] := (Blk.new w 24 [.bool false, .slice none 0 0]).below hb (by simp)
    have H8 := Lib.hid h8; clear h8
    have hbel : Below w.heap.size w w1 := ((Below.refl _ w).alloc (Nat.le_refl _) (.cells #[.bool false, .slice none 0 0] 24)).trans (hb.mono (by simp))
    have HK := Lib.hid hk; clear hk
    have HB := Lib.hid hbel; clear hbel hb
    go_wp2_with fail
    refine (CORE.out true w1 E3.out HB.out HK.out b H8.out).mono ?_
    rintro e w2 ⟨x, a, k, c, rfl, hsp, hk, hb⟩
    have c0 : w2.cell? ⟨w.heap.size, 0, none⟩ = some (.bool false) := hk.cell 0 (by simp)
    have c1 : w2.cell? ⟨w.heap.size, 1, none⟩ = some (.slice none 0 0) := hk.cell 1 (by simp)
    have f0 := hk.free 0
    have f1 := hk.free 1
    have FIN := Lib.hid (hsp.store (w := w) hk (by simp [bv]) hb (Nat.le_refl _))
    clear hsp hk hb
    go_wp2_with fail
    refine bodyPost_ret (v := .agg #[.bool x, .slice a k c]) (by simp [results, Tryz.results10, go_sem, c0, c1]) rfl ?_
    exact ⟨_, rfl, FIN.out.1, FIN.out.2⟩
  · obtain ⟨m, rfl⟩ := Int.eq_ofNat_of_zero_le (show 0 ≤ n by omega)
    rw [Int.natAbs_natCast] at CORE
    have E2 := Lib.hid (show m < 18446744073709551616 by omega)
    have E3 := Lib.hid (show false = decide ((m : Int) < 0) by simp)
    go_enter Tryz.func10, Tryz.ntmps10
    go_wp2_with fail
    refine (bytesOf_any _ _ E2.out).mono ?_
    rintro e w1 ⟨b, rfl, h8, hb⟩
    have hk : Blk w1 w.heap.size 24 [.bool false, .slice none 0 0] := (Blk.new w 24 [.bool false, .slice none 0 0]).below hb (by simp)
    have H8 := Lib.hid h8; clear h8
    have hbel : Below w.heap.size w w1 := ((Below.refl _ w).alloc (Nat.le_refl _) (.cells #[.bool false, .slice none 0 0] 24)).trans (hb.mono (by simp))
    have HK := Lib.hid hk; clear hk
    have HB := Lib.hid hbel; clear hbel hb
    go_wp2_with fail
    refine (CORE.out false w1 E3.out HB.out HK.out b H8.out).mono ?_
    rintro e w2 ⟨x, a, k, c, rfl, hsp, hk, hb⟩
    have c0 : w2.cell? ⟨w.heap.size, 0, none⟩ = some (.bool false) := hk.cell 0 (by simp)
    have c1 : w2.cell? ⟨w.heap.size, 1, none⟩ = some (.slice none 0 0) := hk.cell 1 (by simp)
    have f0 := hk.free 0
    have f1 := hk.free 1
    have FIN := Lib.hid (hsp.store (w := w) hk (by simp [bv]) hb (Nat.le_refl _))
    clear hsp hk hb
    go_wp2_with fail
    refine bodyPost_ret (v := .agg #[.bool x, .slice a k c]) (by simp [results, Tryz.results10, go_sem, c0, c1]) rfl ?_
    exact ⟨_, rfl, FIN.out.1, FIN.out.2⟩
end Go.Proofs.YtbfgjaammmpcdaaGreatDoor
