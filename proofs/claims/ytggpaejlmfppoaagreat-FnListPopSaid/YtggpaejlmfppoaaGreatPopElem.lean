/- impl.elements: what is told of a list's elements. -/
import Derived.Test.YtggpaejlmfppoaaGreatPopTell
import Derived.Test.YtggpaejlmfppoaaGreatListOf
import Derived.ArgAppend
import Derived.Laws.MakeOwn
namespace Go.Proofs.YtggpaejlmfppoaaGreat
open Go.RowKit Dig
set_option linter.unusedVariables false
set_option linter.unusedSimpArgs false
set_option maxRecDepth 100000

def ElRel (X : List Cel) (w : World) (v i : Value) (wr : World) : Prop :=
  ∃ (k : Nat) (ls rest : List Value), k ≤ X.length ∧ i = .int .i64 (k : Int) ∧ v = .slice (some ⟨w.heap.size, 0, none⟩) k X.length ∧ Hid (LOc wr (some w.heap.size) none (X.take k) ls) ∧ Hid (rest.length = (X.length - k) * 6) ∧ Hid (∀ u ∈ ls ++ rest, ∀ m, u ≠ bv m) ∧ Hid (Blk wr w.heap.size 27 (ls ++ rest)) ∧ Hid (Below w.heap.size w wr)
theorem ce6_nobv (x : Cel) (n : Bool) (a : Option Addr) (l c : Nat) (s : ByteArray) : ∀ u ∈ ce6 x n a l c s, ∀ m, u ≠ bv m := by
  intro u hu m
  simp only [ce6, List.mem_cons, List.mem_nil_iff, or_false] at hu
  rcases hu with rfl | rfl | rfl | rfl | rfl | rfl <;> simp [bv]
theorem VaC.clear {w : World} {g B : Nat} {x : Cel} {n : Bool} {a : Option Addr} {l c : Nat} {s : ByteArray} {L : List Value} {e : TypeId} (h : VaC w B (.agg #[.int .i64 x.kind, .bool n, .slice a l c, .int .u64 x.bits, .string s, .slice none 0 0]) x) (hk : Blk w g e L) (hd : ∀ u ∈ L, ∀ m, u ≠ bv m) : ∀ y, a = some y → l ≠ 0 → y.block < B ∧ y.block ≠ g := by
  intro y hy hl0
  cases x with
  | int i =>
    obtain ⟨mag, e, ms, hm, a', c', hsl, _, hrd⟩ := h
    simp only [Cel.bits, Value.agg.injEq, Array.mk.injEq, List.cons.injEq, Value.bool.injEq, Value.string.injEq, true_and, and_true] at e
    obtain ⟨_, _, rfl, _⟩ := e
    simp only [Value.slice.injEq] at hsl
    obtain ⟨rfl, rfl, rfl⟩ := hsl
    have hne : ms.map bv ≠ [] := by intro e; rw [e] at hl0; simp at hl0
    obtain ⟨b, o, rfl, hb, hr⟩ := hrd hne
    injection hy with hy
    subst hy
    refine ⟨hb, ?_⟩
    rintro rfl
    have hpos : 0 < (ms.map bv).length := List.length_pos_iff.2 hne
    have h0 := hr 0 hpos
    rw [Nat.add_zero] at h0
    have hlt := lt_of_cell h0
    rcases Nat.lt_or_ge o L.length with hl | hge
    · change w.cell? ⟨b, o, none⟩ = _ at h0
      rw [hk.cell o hl] at h0
      have e1 : L.getD o undef = (ms.map bv).getD 0 undef := Option.some.inj h0
      rw [List.getD_eq_getElem?_getD, List.getD_eq_getElem?_getD, List.getElem?_eq_getElem hl, List.getElem?_eq_getElem hpos] at e1
      simp only [Option.getD_some, List.getElem_map] at e1
      exact hd _ (List.getElem_mem hl) _ e1
    · unfold Blk at hk
      simp [World.cell?, hk, List.getElem?_eq_none hge] at h0
  | non => simp [VaC] at h; obtain ⟨_, _, ⟨_, h0, _⟩, _⟩ := h; exact absurd h0 hl0
  | boo b => simp [VaC] at h; obtain ⟨_, _, ⟨_, h0, _⟩, _⟩ := h; exact absurd h0 hl0
  | flt u => simp [VaC] at h; obtain ⟨_, _, ⟨_, h0, _⟩, _⟩ := h; exact absurd h0 hl0
  | str t => simp [VaC] at h; obtain ⟨_, _, ⟨_, h0, _⟩, _⟩ := h; exact absurd h0 hl0
  | byt t => simp [VaC] at h; obtain ⟨_, _, ⟨_, h0, _⟩, _⟩ := h; exact absurd h0 hl0
theorem el_step {X : List Cel} {w wr w2 : World} {k : Nat} {ls rest : List Value} {x : Cel} {n : Bool} {a : Option Addr} {l c : Nat} {s : ByteArray} (hk : k < X.length) (hx : X[k]? = some x) (hL : LOc wr (some w.heap.size) none (X.take k) ls) (hrl : rest.length = (X.length - k) * 6) (hno : ∀ u ∈ ls ++ rest, ∀ m, u ≠ bv m) (hB : Blk wr w.heap.size 27 (ls ++ rest)) (hb : Below w.heap.size w wr)
    (hva : VaC w2 w2.heap.size (.agg #[.int .i64 x.kind, .bool n, .slice a l c, .int .u64 x.bits, .string s, .slice none 0 0]) x) (hb2 : Below wr.heap.size wr w2) (W3 w4 : World) (h3 : W3 = w2.alloc (.cells (ce6 x n a l c s).toArray 27)) (h4 : w4 = W3.setCells w.heap.size (0 + k * 6) (ce6 x n a l c s)) :
    ElRel X w (.slice (some ⟨w.heap.size, 0, none⟩) (k + 1) X.length) (.int .i64 ((k : Int) + 1)) w4 := by
  have ha : Below w2.heap.size w2 W3 := by rw [h3]; exact (Below.refl _ _).alloc (Nat.le_refl _) _
  clear h3
  have hb3 : Below wr.heap.size wr W3 := hb2.trans (ha.mono hb2.size)
  have hB3 := hB.below hb3 hB.lt
  have hlk : ls.length = k * 6 := by rw [hL.1, List.length_take, Nat.min_eq_left (Nat.le_of_lt hk)]
  have h6 : (ce6 x n a l c s).length = 6 := rfl
  have hB4 := Blk.sets (ce6 x n a l c s) ls rest W3 hB3 (by rw [hrl, h6]; omega)
  rw [hlk, h6] at hB4
  rw [Nat.zero_add] at h4
  rw [← h4] at hB4
  have hu : Up (some w.heap.size) W3 w4 := by rw [h4]; exact Up.sets _ _ _ _ (Up.refl _ _)
  have hva3 := (hva.below ha).more ha.size
  have hcl : Clc W3 (some w.heap.size) none x n a l c s := ⟨hva3, fun y hy hl0 => by
    obtain ⟨q1, q2⟩ := hva3.clear hB3 hno y hy hl0
    exact ⟨q1, fun e => q2 (by injection e), by simp⟩⟩
  have hS : SameC (some w.heap.size) none W3 w4 := ⟨hu.size, fun j hj h1 _ => hu.block j hj h1⟩
  have hLO := (hL.same (SameC.of_below hb3)).add hcl hS (p1 := some w.heap.size) (p2 := none) (.inl rfl) (.inl rfl)
  have htk : X.take (k + 1) = X.take k ++ [x] := by rw [List.take_add_one, hx]; rfl
  refine ⟨k + 1, ls ++ ce6 x n a l c s, rest.drop 6, hk, by simp, rfl, Lib.hid (by rw [htk]; exact hLO), Lib.hid (by rw [List.length_drop, hrl]; omega), Lib.hid ?_, Lib.hid hB4, Lib.hid ?_⟩
  · intro u hu m
    rcases List.mem_append.1 hu with h | h
    · rcases List.mem_append.1 h with h | h
      · exact hno u (List.mem_append_left _ h) m
      · exact ce6_nobv x n a l c s u h m
    · exact hno u (List.mem_append_right _ (List.mem_of_mem_drop h)) m
  · have hb13 := hb.trans (hb3.mono hb.size)
    exact hb13.trans (hu.below hb13.size (fun k hk => by injection hk with hk; omega))
/-- the values of a list's elements -/
def ElPost (X : List Cel) (w : World) (e : Ending) (w' : World) : Prop := ∃ c, e = .returned (.slice (some ⟨w.heap.size, 0, none⟩) X.length c) ∧ CeL w' w'.heap.size (.slice (some ⟨w.heap.size, 0, none⟩) X.length c) X ∧ Below w.heap.size w w'
theorem el_fin {X : List Cel} {w wr : World} {ls rest : List Value} (hL : LOc wr (some w.heap.size) none (X.take X.length) ls) (hB : Blk wr w.heap.size 27 (ls ++ rest)) (hb : Below w.heap.size w wr) : ElPost X w (.returned (.slice (some ⟨w.heap.size, 0, none⟩) X.length X.length)) wr := by
  rw [List.take_length] at hL
  refine ⟨_, rfl, ⟨_, _, rfl, Nat.le_refl _, fun hne => ⟨w.heap.size, 0, rfl, hB.lt, fun k x hk => ?_⟩⟩, hb⟩
  obtain ⟨n, a, l, c, s, g1, g2⟩ := hL.2 k x hk
  have hkl : k < X.length := (List.getElem?_eq_some_iff.1 hk).1
  have hcell : ∀ i, i < 6 → wr.cell? ⟨w.heap.size, 0 + k * 6 + i, none⟩ = some ((ce6 x n a l c s).getD i undef) := by
    intro i hi
    have hl6 := hL.1
    rw [Nat.zero_add, hB.cell _ (by rw [List.length_append]; omega), ← g1 i hi, List.getD_eq_getElem?_getD, List.getD_eq_getElem?_getD, List.getElem?_append_left (by omega)]
  exact ⟨n, a, l, c, s, ⟨hcell 0 (by omega), hcell 1 (by omega), hcell 2 (by omega), hcell 3 (by omega), hcell 4 (by omega), hcell 5 (by omega)⟩, g2.1⟩
set_option maxHeartbeats 3200000 in
theorem elements_any (lb g cap : Nat) (X : List Cel) (w : World) (h : Lst w lb g cap X) (hok : ∀ x ∈ X, x.ok) (hlen : X.length ≤ 1048576) : Calls Tryz.prog 17 #[.pointer (some ⟨lb, 0, none⟩)] w (ElPost X w) := by
  obtain ⟨iV, hiV, hzV, hsV, hbV⟩ := info_parts info26
  obtain ⟨N, hN⟩ : ∃ N, N = X.length := ⟨_, rfl⟩
  have HN := Lib.hid hN
  obtain ⟨ar, har⟩ : ∃ ar, ar = madeCells (Value.cells (.agg zeroVal.toArray)) (N * 6) := ⟨_, rfl⟩
  have hmk : ∀ W : World, (Instr.makeSlice 22 (.int .i64 0) (.int .i64 (N : Int))).run Tryz.prog W = .ok (.slice (some ⟨W.heap.size, 0, none⟩) 0 N) (W.alloc (.cells ar 27)) := by
    intro W
    have h := run_make (P := Tryz.prog) W 22 27 iV _ Tryz.underlying22 hiV hzV .i64 .i64 0 (N : Int) (by omega) (by omega) (by rw [hbV]; omega) (by omega)
    rw [hsV] at h
    rw [har]
    simpa using h
  have hLst := Lib.hid h
  have HOK := Lib.hid hok
  have hlN : N ≤ 1048576 := by omega
  have START : Hid (ElRel X w (.slice (some ⟨w.heap.size, 0, none⟩) 0 N) (.int .i64 0) (w.alloc (.cells ar 27))) := Lib.hid (by
    refine ⟨0, [], ar.toList, Nat.zero_le _, rfl, by rw [hN], Lib.hid (by simpa using LOc.nil _ _ _), Lib.hid ?_, Lib.hid ?_, Lib.hid ?_, Lib.hid ((Below.refl _ _).alloc (Nat.le_refl _) _)⟩
    · rw [Array.length_toList, har, size_madeCells, hN, Nat.sub_zero]
    · intro u hu m
      rw [List.nil_append, har, madeCells, Array.toList_map, List.mem_map] at hu
      obtain ⟨j, _, rfl⟩ := hu
      have : j % 6 < 6 := Nat.mod_lt _ (by omega)
      revert this
      generalize hj : j % 6 = r
      intro hr
      have hj' : j % (Value.cells (.agg zeroVal.toArray)).size = r := hj
      rw [hj']
      match r, hr with
      | 0, _ => simp [bv, Value.cells, zeroVal]
      | 1, _ => simp [bv, Value.cells, zeroVal]
      | 2, _ => simp [bv, Value.cells, zeroVal]
      | 3, _ => simp [bv, Value.cells, zeroVal]
      | 4, _ => simp [bv, Value.cells, zeroVal]
      | 5, _ => simp [bv, Value.cells, zeroVal]
    · rw [List.nil_append]
      have := Blk.new w 27 ar.toList
      simpa using this)
  have LEN : Hid (∀ W, Below w.heap.size w W → Calls Tryz.prog 45 #[.pointer (some ⟨lb, 0, none⟩)] W fun e w' => e = .returned (.int .i64 (N : Int)) ∧ W = w') := Lib.hid (fun W hW => by rw [hN]; exact (listLen_any lb g cap X W (hLst.out.below hW)).mono fun e w' h => ⟨h.1, h.2.symm⟩)
  clear h hok hlen har hN
  go_enter Tryz.func17, Tryz.ntmps17
  go_wp2_with (go_at_call 45; (with_reducible refine (LEN.out _ (by first | exact Below.refl _ _ | exact (Below.refl _ _).alloc (Nat.le_refl _) _)).mono ?_); rintro e w' ⟨rfl, rfl⟩)
  go_loopw [3, 10] (ElRel X w) (fun _ i _ => N - (intOf i).toNat)
  case atStart => exact START.out
  case round =>
    obtain ⟨k, ls, rest, hk, rfl, rfl, HL, HR, HNO, HB, HW⟩ := hrel
    clear START
    rw [← HN.out] at hk
    rcases Nat.lt_or_ge k N with hlt | hge
    · obtain ⟨x, hx⟩ : ∃ x, X[k]? = some x := ⟨_, List.getElem?_eq_getElem (by rw [← HN.out]; exact hlt)⟩
      have CI := Lib.hid (listIndex_any lb g cap k X x wr (hLst.out.below HW.out) hx)
      have hxo := Lib.hid (HOK.out x (List.mem_of_getElem? hx))
      have HX := Lib.hid hx
      clear hx
      rw [← HN.out]
      go_wp2_with fail
      refine CI.out.mono ?_
      rintro e w1 ⟨T, y, rfl, hs, rfl⟩
      have CT := Lib.hid (tellScalar_any x T y w1 hs hxo.out)
      clear hs CI
      go_wp2_with fail
      refine CT.out.mono ?_
      rintro e w2 ⟨n, a, l, c, s, rfl, hva, hb2⟩
      have STEP : Hid (∀ w4, w4 = (w2.alloc (.cells (ce6 x n a l c s).toArray 27)).setCells w.heap.size (0 + k * 6) (ce6 x n a l c s) → ElRel X w (.slice (some ⟨w.heap.size, 0, none⟩) (k + 1) N) (.int .i64 ((k : Int) + 1)) w4) := Lib.hid (fun w4 h4 => by
        rw [HN.out]
        exact el_step (by rw [← HN.out]; exact hlt) HX.out HL.out HR.out HNO.out HB.out HW.out hva hb2 _ w4 rfl h4)
      have b3 : Below w1.heap.size w1 (w2.alloc (.cells (ce6 x n a l c s).toArray 27)) := hb2.trans (((Below.refl _ _).alloc (Nat.le_refl _) _).mono hb2.size)
      have hB3 := HB.out.below b3 HB.out.lt
      have hlk : ls.length = k * 6 := by rw [HL.out.1, List.length_take, ← HN.out, Nat.min_eq_left (Nat.le_of_lt hlt)]
      have OL := Lib.hid hlk
      have OC : Hid (∀ j u, ls[j]? = some u → (w2.alloc (.cells (ce6 x n a l c s).toArray 27)).cell? ⟨w.heap.size, 0 + j, none⟩ = some u) := Lib.hid (fun j u hj => by
        have hjl : j < ls.length := (List.getElem?_eq_some_iff.1 hj).1
        rw [Nat.zero_add, hB3.cell j (by rw [List.length_append]; omega), List.getD_eq_getElem?_getD, List.getElem?_append_left hjl, hj]; rfl)
      have NW : Hid (∀ j u, (ce6 x n a l c s)[j]? = some u → (w2.alloc (.cells (ce6 x n a l c s).toArray 27)).cell? ((⟨w2.heap.size, 0, none⟩ : Addr).add j) = some u) := Lib.hid (fun j u hj => by
        obtain ⟨hjl, rfl⟩ := List.getElem?_eq_some_iff.1 hj
        rw [add_zero0, (Blk.new w2 27 (ce6 x n a l c s)).cell j hjl, List.getD_eq_getElem?_getD, List.getElem?_eq_getElem hjl]; rfl)
      have SP : Hid (k + 1 ≤ N → ∀ j, j < (ce6 x n a l c s).length → ((w2.alloc (.cells (ce6 x n a l c s).toArray 27)).cell? ⟨w.heap.size, 0 + k * 6 + j, none⟩).isSome = true ∧ (w2.alloc (.cells (ce6 x n a l c s).toArray 27)).frozen? ⟨w.heap.size, 0 + k * 6 + j, none⟩ = false) := Lib.hid (fun _ j hj => by
        have h6 : j < 6 := hj
        have hr := HR.out
        rw [← HN.out] at hr
        exact ⟨by rw [hB3.cell _ (by rw [List.length_append]; omega)]; rfl, hB3.free _⟩)
      have ON := Lib.hid (ce6_one x n a l c s)
      have hroom : k + 1 ≤ N := hlt
      clear hva hb2 b3 hB3 hlk CT
      unfold ce6 at STEP OC NW SP ON
      go_wp2_with (at_builtin; refine wpList_append_arg _ rfl (.tmp 13) (.tmp 18) 22 rfl 27 iV _ 6 88 Tryz.underlying22 hiV hzV hsV hbV rfl (by decide) w.heap.size 0 k N ls rfl OL.out OC.out ⟨w2.heap.size, 0, none⟩ 1 1 _ rfl rfl NW.out ON.out SP.out (by unfold maxLen; omega) (by omega) (fun _ => ?_) (fun h => absurd h (by omega)); generalize hw4 : World.setCells _ _ _ _ = w4; have FS := Lib.hid (STEP.out w4 hw4.symm); clear hw4)
      go_roundw
      case rel => first | exact FS.out | ((repeat apply Exists.intro); exact ⟨FS.out, rfl⟩)
      case measure => simp [intOf]; omega
    · obtain rfl : k = N := by omega
      have FIN : Hid (ElPost X w (.returned (.slice (some ⟨w.heap.size, 0, none⟩) k k)) wr) := Lib.hid (by
        have hl := HL.out
        have := el_fin (X := X) (w := w) (wr := wr) (ls := ls) (rest := rest) (by rw [HN.out] at hl; exact hl) HB.out HW.out
        rw [HN.out]; exact this)
      rw [← HN.out]
      go_wp2_with fail
      go_ret
      exact FIN.out
end Go.Proofs.YtggpaejlmfppoaaGreat
