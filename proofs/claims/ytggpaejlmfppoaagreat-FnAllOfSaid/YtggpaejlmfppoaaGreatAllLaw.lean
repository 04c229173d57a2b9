/- The law FnAllOf's walk. -/
import Derived.Test.YtggpaejlmfppoaaGreatAllDoor
import Derived.Test.YtggpaejlmfppoaaGreatAllTruth
namespace Go.Proofs.YtggpaejlmfppoaaGreat
open Go.RowKit Dig
set_option linter.unusedVariables false
set_option linter.unusedSimpArgs false
set_option maxRecDepth 100000

theorem allT_take (xs : List Cel) (k : Nat) (x : Cel) (hx : xs[k]? = some x) : allT (xs.take (k + 1)) = (allT (xs.take k) && x.truth) := by
  have htk : xs.take (k + 1) = xs.take k ++ [x] := by rw [List.take_add_one, hx]; rfl
  unfold allT
  rw [htk, List.all_append]
  simp
set_option maxHeartbeats 3200000 in
theorem lawAll (la : Option Addr) (ln lc : Nat) (w : World) (h : RawL w la ln) : Calls Tryz.prog 4 #[.slice la ln lc] w fun e w' => e = .returned (.bool true) ∧ Below w.heap.size w w' := by
  by_cases hb : ln ≤ 2147483647
  · have C1 := Lib.hid (listOf_any la ln lc w h hb)
    clear h
    go_enter Tryz.func4, Tryz.ntmps4
    go_wp2_with fail
    refine C1.out.mono ?_
    rintro e w1 ⟨xs, a, c, hl, hok, rfl, hce, hb1⟩
    have hxl : xs.length ≤ 1048576 := by omega
    have C2 := Lib.hid (implAllOf_any xs a xs.length c w1 hce hok hxl)
    have HCE := Lib.hid hce; have HOK := Lib.hid hok; have HB1 := Lib.hid hb1
    obtain ⟨N, hN⟩ : ∃ N, N = xs.length := ⟨_, rfl⟩
    have HN := Lib.hid hN
    rw [← hN] at C2 hxl ⊢
    clear hce hok hb1 C1 hl hN
    go_wp2_with fail
    refine C2.out.mono ?_
    rintro e w2 ⟨rfl, hb2⟩
    have HB2 := Lib.hid (HB1.out.trans (hb2.mono HB1.out.size))
    have HB12 := Lib.hid hb2
    clear hb2 C2
    go_wp2_with fail
    go_loopw [6, 22] (fun v i wr => ∃ k : Nat, k ≤ N ∧ v = .bool (allT (xs.take k)) ∧ i = .int .i64 (k : Int) ∧ Hid (Below w.heap.size w wr) ∧ Hid (Below w1.heap.size w1 wr)) (fun _ i _ => N - (intOf i).toNat)
    case atStart => exact ⟨0, Nat.zero_le _, rfl, rfl, HB2, HB12⟩
    case round =>
      obtain ⟨k, hk, rfl, rfl, HBW, HBV⟩ := hrel
      rcases Nat.lt_or_ge k N with hlt | hge
      · obtain ⟨x, hx⟩ : ∃ x, xs[k]? = some x := ⟨_, List.getElem?_eq_getElem (by rw [← HN.out]; exact hlt)⟩
        obtain ⟨a', c', hae, _, hcells⟩ := HCE.out.below HBV.out
        obtain ⟨b, o, ha, hbB, hcel⟩ := hcells (by intro h; rw [h] at hx; simp at hx)
        simp only [Value.slice.injEq, true_and] at hae
        obtain ⟨rfl, rfl⟩ := hae
        subst ha
        obtain ⟨n, p, l, cc, s, ⟨g0, g1, g2, g3, g4, g5⟩, hva⟩ := hcel k x hx
        have hbr : b < wr.heap.size := Nat.lt_of_lt_of_le hbB HBV.out.size
        have HT := Lib.hid (allT_take xs k x hx)
        have C := Lib.hid (fun W (hb : Below wr.heap.size wr W) => spTruth_any x n p l cc s W (((hva.more HBV.out.size).below hb).more hb.size) (HOK.out x (List.mem_of_getElem? hx)))
        obtain ⟨t, ht⟩ : ∃ t, t = allT (xs.take k) := ⟨_, rfl⟩
        rw [← ht]
        rw [← ht] at HT
        obtain ⟨u, hu⟩ : ∃ u, u = x.truth := ⟨_, rfl⟩
        rw [← hu] at HT C
        generalize x.kind = kd at *
        generalize x.bits = ub at *
        have HA : Hid (Below wr.heap.size wr (wr.alloc (.cells #[.int .i64 kd, .bool n, .slice p l cc, .int .u64 ub, .string s, .slice none 0 0] 27))) := Lib.hid ((Below.refl _ _).alloc (Nat.le_refl _) _)
        have hi1 : (0 : Int) ≤ (k : Int) := by omega
        have hi2 : (k : Int) < (N : Int) := by omega
        clear hcel hcells hva hx ht hu hbB
        cases t with
        | false =>
          have HR := Lib.hid (HBW.out.trans (HA.out.mono HBW.out.size)); have HV := Lib.hid (HBV.out.trans (HA.out.mono HBV.out.size))
          go_wp2_with fail
          go_roundw
          case rel => first | exact ⟨k + 1, hlt, by rw [HT.out]; rfl, by simp, HR, HV⟩ | ((repeat apply Exists.intro); exact ⟨⟨k + 1, hlt, by rw [HT.out]; rfl, by simp, HR, HV⟩, rfl⟩)
          case measure => simp [intOf]; omega
        | true =>
          go_wp2_with fail
          refine (C.out _ HA.out).mono ?_
          rintro e w4 ⟨rfl, hb4⟩
          have hb5 := HA.out.trans (hb4.mono HA.out.size)
          have HR := Lib.hid (HBW.out.trans (hb5.mono HBW.out.size)); have HV := Lib.hid (HBV.out.trans (hb5.mono HBV.out.size))
          clear hb4 hb5 C
          go_wp2_with fail
          go_roundw
          case rel => first | exact ⟨k + 1, hlt, by rw [HT.out]; rfl, by simp, HR, HV⟩ | ((repeat apply Exists.intro); exact ⟨⟨k + 1, hlt, by rw [HT.out]; rfl, by simp, HR, HV⟩, rfl⟩)
          case measure => simp [intOf]; omega
      · obtain rfl : k = N := by omega
        have HE : Hid (allT (xs.take k) = allT xs) := Lib.hid (by rw [HN.out, List.take_length])
        rw [HE.out]
        generalize allT xs = b at *
        cases b <;>
        (go_wp2_with fail
         go_ret
         exact ⟨rfl, HBW.out⟩)
  · clear h
    go_enter Tryz.func4, Tryz.ntmps4
    go_wp2_with fail
    go_ret
    exact ⟨rfl, Below.refl _ _⟩
end Go.Proofs.YtggpaejlmfppoaaGreat
