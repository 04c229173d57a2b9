/- (*Int).BitLen, low64, Int64, SetBytes, Neg; isSmall, MakeBigInt; impl.whole: an impl.Val as an integer of the package. -/
import Derived.Test.YtbfgjaammmpcdaaGreatDoorLen
import Derived.Test.YtbfgjaammmpcdaaGreatDoorMNew
namespace Go.Proofs.YtbfgjaammmpcdaaGreatDoor
open Go.RowKit Dig
set_option linter.unusedVariables false
set_option linter.unusedSimpArgs false
set_option maxRecDepth 100000

theorem BitLen_any (p : Option Addr) (i : Int) (w : World) (h : Bg w w.heap.size p i) (hl : i.natAbs < lim) : Calls Tryz.prog 71 #[.pointer p] w (BLPost i.natAbs w) := by
  obtain ⟨b, abs, rfl, hb, hk, hn⟩ := h
  have x1 : w.cell? ⟨b, 1, none⟩ = some abs := hk.cell 1 (by simp)
  have CORE := Lib.hid (bitLen_any _ abs w hn hl)
  clear hk hn
  go_enter Tryz.func71, Tryz.ntmps71
  go_wp2_with fail
  refine CORE.out.mono ?_
  rintro e w' ⟨L, rfl, hL, rfl⟩
  have HL := Lib.hid hL
  clear hL
  go_wp2_with fail
  go_ret
  exact ⟨L, rfl, HL.out, rfl⟩

theorem low64_any (m : Nat) (v : Value) (w : World) (hs : Nt w w.heap.size v m) (hm : m < 18446744073709551616) : Calls Tryz.prog 72 #[v] w fun e w' => e = .returned (.int .u64 m) ∧ w = w' := by
  obtain ⟨xs, hrep, hs⟩ := hs
  have hl : xs.length ≤ 1 := hrep.length_le (k := 1) (by omega) (by simpa using hm)
  obtain ⟨a, c, rfl, hc, hr⟩ := hs
  simp only [List.length_map, ne_eq, List.map_eq_nil_iff] at hc hr ⊢
  by_cases h0 : xs = []
  · subst h0
    have : m = 0 := ((hrep.pos_iff (by omega)).1 rfl)
    subst this
    clear hr hrep
    go_enter Tryz.func72, Tryz.ntmps72
    go_wp2_with fail
    go_ret
    exact ⟨rfl, rfl⟩
  · obtain ⟨b, o, rfl, hb, hrd⟩ := hr h0
    match xs, h0, hl with
    | [x], _, _ =>
      have e : x = m := by have := hrep.val; simpa [nval] using this
      subst e
      have hcell := hrd 0 (by simp)
      simp only [List.map_cons, List.map_nil, List.getD_cons_zero, Nat.add_zero, wv] at hcell
      clear hr hrd hrep
      simp only [List.length_cons, List.length_nil, Nat.zero_add] at hc ⊢
      go_enter Tryz.func72, Tryz.ntmps72
      go_wp2_with fail
      go_ret
      exact ⟨rfl, rfl⟩

theorem Int64_any (p : Option Addr) (i : Int) (w : World) (h : Bg w w.heap.size p i) (hl : i.natAbs < 9223372036854775808) : Calls Tryz.prog 56 #[.pointer p] w fun e w' => e = .returned (.int .i64 i) ∧ w = w' := by
  obtain ⟨b, abs, rfl, hb, hk, hn⟩ := h
  have x0 : w.cell? ⟨b, 0, none⟩ = some (.bool (decide (i < 0))) := hk.cell 0 (by simp)
  have x1 : w.cell? ⟨b, 1, none⟩ = some abs := hk.cell 1 (by simp)
  have CORE := Lib.hid (low64_any _ abs w hn (by omega))
  obtain ⟨m, hm⟩ : ∃ m, m = i.natAbs := ⟨_, rfl⟩
  rw [← hm] at CORE hl
  have HM : Hid (i = if i < 0 then -(m : Int) else m) := Lib.hid (by split <;> omega)
  clear hk hn hm
  by_cases h2 : i < 0
  · rw [decide_eq_true h2] at x0
    rw [if_pos h2] at HM
    clear h2
    go_enter Tryz.func56, Tryz.ntmps56
    go_wp2_with fail
    refine CORE.out.mono ?_
    rintro e w' ⟨rfl, rfl⟩
    go_wp2_with fail
    go_ret
    exact ⟨congrArg (fun z => Ending.returned (.int .i64 z)) HM.out.symm, rfl⟩
  · rw [decide_eq_false h2] at x0
    rw [if_neg h2] at HM
    clear h2
    go_enter Tryz.func56, Tryz.ntmps56
    go_wp2_with fail
    refine CORE.out.mono ?_
    rintro e w' ⟨rfl, rfl⟩
    go_wp2_with fail
    go_ret
    exact ⟨congrArg (fun z => Ending.returned (.int .i64 z)) HM.out.symm, rfl⟩

def smallI (i : Int) : Bool := decide (-2147483648 ≤ i ∧ i ≤ 2147483647)
theorem isSmall_any (p : Option Addr) (i : Int) (w : World) (h : Bg w w.heap.size p i) (hl : i.natAbs < lim) : Calls Tryz.prog 55 #[.pointer p] w fun e w' => e = .returned (.bool (smallI i)) ∧ w = w' := by
  obtain ⟨S, hS⟩ : ∃ S, S = smallI i := ⟨_, rfl⟩
  have HB := Lib.hid h
  have HS := Lib.hid hS
  rw [← hS]
  clear hS
  have H64 : Hid (i.natAbs < 9223372036854775808 → Calls Tryz.prog 56 #[.pointer p] w fun e w' => e = .returned (.int .i64 i) ∧ w = w') := Lib.hid (fun hi => Int64_any p i w h hi)
  clear h
  go_enter Tryz.func55, Tryz.ntmps55
  go_wp2_with fail
  refine (BitLen_any p i w HB.out hl).mono ?_
  rintro e w' ⟨L, rfl, hL, rfl⟩
  have hLL : Hid (L < 32 → S = true) := Lib.hid (fun h => by
    rw [HS.out]
    have h1 := hL.1
    have : (2 : Nat) ^ L ≤ 2 ^ 31 := Nat.pow_le_pow_right (by omega) (by omega)
    unfold smallI
    exact decide_eq_true (by omega))
  have hLG : Hid (32 < L → S = false) := Lib.hid (fun h => by
    rw [HS.out]
    have h2 := hL.2.1
    have h0 := hL.2.2
    have : (2 : Nat) ^ 33 ≤ 2 ^ L := Nat.pow_le_pow_right (by omega) (by omega)
    unfold smallI
    exact decide_eq_false (by omega))
  have hL32 : Hid (L = 32 → i.natAbs < 9223372036854775808 ∧ S = decide (i = -2147483648)) := Lib.hid (fun h => by
    subst h
    have h1 := hL.1
    have h2 := hL.2.1
    have h0 := hL.2.2
    refine ⟨by omega, ?_⟩
    rw [HS.out]
    unfold smallI
    by_cases hi : i = -2147483648
    · subst hi; rfl
    · rw [decide_eq_false hi]
      exact decide_eq_false (by omega))
  have hLB : L < 9223372036854775807 := by
    rcases Nat.lt_or_ge L 1000000 with h | h
    · omega
    · exfalso
      have h2 := hL.2.1
      have h0 := hL.2.2
      obtain ⟨K, hK⟩ : ∃ K, K = 8 * (8 * limW) := ⟨_, rfl⟩
      have : (2 : Nat) ^ (K + 2) ≤ 2 ^ L := Nat.pow_le_pow_right (by omega) (by rw [hK, limW_eq]; omega)
      have h3 : i.natAbs ≠ 0 := by intro h; have := h0 h; omega
      have h4 := h2 h3
      have e : lim = 2 ^ K := by
        unfold lim
        rw [hK, show (256 : Nat) = 2 ^ 8 from rfl, ← Nat.pow_mul]
      rw [e] at hl
      rw [Nat.pow_add] at this
      generalize (2 : Nat) ^ K = P at *
      omega
  clear hL hl
  by_cases h1 : L < 32
  · obtain rfl := hLL.out h1
    clear hLL hLG hL32
    go_wp2_with fail
    go_ret
    exact ⟨rfl, rfl⟩
  · by_cases h2 : L = 32
    · subst h2
      obtain rfl := (hL32.out rfl).2
      have C := Lib.hid (H64.out (hL32.out rfl).1)
      clear hLL hLG hL32
      go_wp2_with fail
      refine C.out.mono ?_
      rintro e w' ⟨rfl, rfl⟩
      go_wp2_with fail
      go_ret
      exact ⟨rfl, rfl⟩
    · obtain rfl := hLG.out (by omega)
      clear hLL hLG hL32
      have hne : ((L : Int) == 32) = false := by simp; omega
      go_wp2_with fail
      go_ret
      exact ⟨congrArg (fun z => Ending.returned (.bool z)) (show decide ((L : Int) < 32) = false by simp; omega), rfl⟩

set_option maxHeartbeats 800000 in
theorem makeBigInt_any (p : Option Addr) (i : Int) (w : World) (h : Bg w w.heap.size p i) (hl : i.natAbs < lim) : Calls Tryz.prog 35 #[.pointer p] w (InPost i w) := by
  have hal : ∀ x, Below w.heap.size w (w.alloc x) := fun x => (Below.refl _ _).alloc (Nat.le_refl _) _
  have hB1 : Bg (w.alloc (.cells #[.int .i64 0, .pointer none] 54)) (w.alloc (.cells #[.int .i64 0, .pointer none] 54)).heap.size p i := (h.below (hal _)).more (hal _).size
  have C1 := Lib.hid (isSmall_any p i _ hB1 hl)
  by_cases hs : smallI i = true
  · have hr : -2147483648 ≤ i ∧ i ≤ 2147483647 := by simpa [smallI] using hs
    have C2 := Lib.hid (Int64_any p i _ hB1 (by omega))
    rw [hs] at C1
    clear h hB1 hal hs
    obtain ⟨hr1, hr2⟩ := hr
    go_enter Tryz.func35, Tryz.ntmps35
    go_wp2_with fail
    refine C1.out.mono ?_
    rintro e w' ⟨rfl, rfl⟩
    go_wp2_with fail
    refine C2.out.mono ?_
    rintro e w' ⟨rfl, rfl⟩
    go_wp2
    go_returns
    exact ⟨_, rfl, ⟨i, none, rfl, .inl ⟨rfl, rfl, hr1, hr2⟩⟩, by go_grown⟩
  · have hr : ¬ (-2147483648 ≤ i ∧ i ≤ 2147483647) := by simpa [smallI] using hs
    have hs' : smallI i = false := by simpa using hs
    have C2 := Lib.hid (Set_new p i _ hB1 hl)
    have core : Hid (∀ w2 : World, Below (w.heap.size + 1) (w.alloc (.cells #[.int .i64 0, .pointer none] 54)) w2 → Blk w2 w.heap.size 54 [.int .i64 0, .pointer none] ∧ Below w.heap.size w w2) := Lib.hid (fun w2 hb =>
      ⟨(Blk.new w 54 [.int .i64 0, .pointer none]).below hb (by omega), (hal _).trans (hb.mono (by omega))⟩)
    have fin : Hid (∀ (w2 : World) (q : Option Addr), Bg w2 w2.heap.size q i → Blk w2 w.heap.size 54 [.int .i64 0, .pointer none] → Below w.heap.size w w2 →
        InPost i w (.returned (.agg #[.int .i64 0, .pointer q])) ((((w2.setCell ⟨w.heap.size, 0, none⟩ (.int .i64 0)).setCell ⟨w.heap.size, 1, none⟩ (.pointer q))).alloc (.cells #[.int .i64 0, .pointer q] 54))) := Lib.hid (fun w2 q hq hk hb => by
      have hi : In w2 w2.heap.size (.agg #[.int .i64 0, .pointer q]) i := ⟨0, q, rfl, .inr ⟨rfl, hr, hq⟩⟩
      have := hi.store (w := w) hk (by simp [wv]) hb (Nat.le_refl _)
      exact ⟨_, rfl, (this.1.below ((Below.refl _ _).alloc (Nat.le_refl _) _)).more (by simp), this.2.alloc this.2.size _⟩)
    have hsz : (w.alloc (.cells #[.int .i64 0, .pointer none] 54)).heap.size = w.heap.size + 1 := by simp
    rw [hsz] at C2
    rw [hs'] at C1
    clear h hB1 hal hs hs' hr hsz
    go_enter Tryz.func35, Tryz.ntmps35
    go_wp2_with fail
    refine C1.out.mono ?_
    rintro e w' ⟨rfl, rfl⟩
    go_wp2_with fail
    refine C2.out.mono ?_
    rintro e w2 ⟨rfl, hq, hb⟩
    obtain ⟨hk, hbb⟩ := core.out w2 hb
    have c0 : w2.cell? ⟨w.heap.size, 0, none⟩ = some (.int .i64 0) := hk.cell 0 (by simp)
    have c1 : w2.cell? ⟨w.heap.size, 1, none⟩ = some (.pointer none) := hk.cell 1 (by simp)
    have f0 := hk.free 0
    have f1 := hk.free 1
    have hlt := hk.lt
    have F := Lib.hid (fin.out w2 _ hq hk hbb)
    clear hq hk hbb hb
    go_wp2
    refine bodyPost_ret (v := .agg #[.int .i64 0, .pointer _]) (by simp [results, Tryz.results35, go_sem, c0, c1, hlt]; rfl) rfl ?_
    exact F.out
end Go.Proofs.YtbfgjaammmpcdaaGreatDoor
