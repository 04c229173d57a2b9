/- big.NewInt, starlark.MakeInt64, (starlark.Int).get: integers made of a number. nat.make, nat.set, nat.norm, (*Int).Set with a receiver that has no words yet. Comparisons of pointers to blocks of the call's own. No function of the program. (*Int).Set with a fresh receiver; (starlark.Int).get, BigInt. nat.bytes: the bytes of a number, the highest first, laid into a buffer of the call's own. (*Int).Sign, (*Int).Bytes, impl.number: an integer of the package as an impl.Val. -/
import Derived.Test.YtoojgjhfmmohbaaGreatRows
import Derived.Test.YtoojgjhfmmohbaaGreatMBase
import Derived.Laws.MakeOwn
import Derived.Laws.CopyOwn
import Derived.LaidEql
import Derived.Deep.RegionWith
namespace Go.Proofs.YtoojgjhfmmohbaaGreat
open Go.RowKit Dig
set_option linter.unusedVariables false
set_option linter.unusedSimpArgs false
set_option maxRecDepth 100000
theorem rep_zero : Rep 18446744073709551616 [] 0 := ⟨by simp, rfl, by simp [Nrm]⟩
theorem Bg.one (w : World) (e : TypeId) (m : Nat) (i : Int) (hi : i.natAbs = m) (h : Rep 18446744073709551616 [m] m) :
   Bg ((w.alloc (.cells #[wv m] e)).alloc (.cells #[.bool (decide (i < 0)), .slice (some ⟨w.heap.size, 0, none⟩) 1 1] 200)) (w.heap.size + 2) (some ⟨w.heap.size + 1, 0, none⟩) i := by
 have k1 : Blk (w.alloc (.cells #[wv m] e)) w.heap.size e [wv m] := Blk.new w e [wv m]
 have k2 := Blk.new (w.alloc (.cells #[wv m] e)) 200 [.bool (decide (i < 0)), .slice (some ⟨w.heap.size, 0, none⟩) 1 1]
 have hsz : (w.alloc (.cells #[wv m] e)).heap.size = w.heap.size + 1 := by simp
 rw [hsz] at k2
 refine ⟨_, _, rfl, by omega, k2, [m], by rw [hi]; exact h, ?_⟩
 have k3 := k1.alloc (.cells #[.bool (decide (i < 0)), .slice (some ⟨w.heap.size, 0, none⟩) 1 1] 200)
 exact Sl.mk (vs := [wv m]) (c := 1) (k3.rd (by simp) (fun i _ => by rw [Nat.zero_add])) (by simp) (by omega)
theorem Bg.far {w : World} {B b : Nat} {p : Option Addr} {i : Int} {L : List Value} {e : TypeId} (h : Bg w B p i) (hk : Blk w b e L) (he : 200 ≠ e) (hd : ∀ u ∈ L, ∀ m, u ≠ wv m) (j : Nat) (y : Value) : Bg (w.setCell ⟨b, j, none⟩ y) B p i := by
 obtain ⟨b', abs, h1, h2, h3, xs, h4, h5⟩ := h
 refine ⟨b', abs, h1, h2, h3.far (p := ⟨b, j, none⟩) ?_ y, xs, h4, h5.far hk (not_wv hd xs) j y⟩
 rintro rfl
 exact he (h3.inj hk).1
theorem In.form {w : World} {B : Nat} {v : Value} {i : Int} (h : In w B v i) : ∃ (s : Int) (p : Option Addr), v = .agg #[.int .i64 s, .pointer p] := by
 obtain ⟨s, p, h, _⟩ := h; exact ⟨s, p, h⟩
def zs (z : Value) (c : Nat) : List Value := List.replicate c z
theorem zs_length (z : Value) (c : Nat) : (zs z c).length = c := by simp [zs]
theorem infoW : (Tryz.prog.info? 218).map (fun i => (i.zero, i.size, i.bytes)) = some (some (.int .u64 0), 1, 8) := by kernel_rfl
theorem made_zs (z : Value) (c : Nat) : madeCells #[z] c = (zs z c).toArray := by
 have := toList_madeCells_one z c
 unfold zs
 rw [← this]
theorem run_mk {P : Program} (t e : TypeId) (z : Value) (bytes : Nat) (ht : P.underlying t = some (.slice e)) (hinfo : (P.info? e).map (fun i => (i.zero, i.size, i.bytes)) = some (some z, 1, bytes)) (hz1 : z.cells = #[z])
   (l c : Nat) (hlc : l ≤ c) (hbytes : bytes * c ≤ 281474976710656) (h63 : c ≤ 9223372036854775807) (w : World) :
   (Instr.makeSlice t (.int .i64 (l : Int)) (.int .i64 (c : Int))).run P w = .ok (.slice (some ⟨w.heap.size, 0, none⟩) l c) (w.alloc (.cells (zs z c).toArray e)) := by
 obtain ⟨i, hi, hzz⟩ := Option.map_eq_some_iff.1 hinfo
 simp only [Prod.mk.injEq] at hzz
 obtain ⟨hz, hs, hb⟩ := hzz
 have hb' : (i.bytes : Int) * (c : Int) ≤ 281474976710656 := by
   have h : ((i.bytes * c : Nat) : Int) ≤ 281474976710656 := by rw [hb]; omega
   rwa [Int.natCast_mul] at h
 have hr := run_make (P := P) w t e i z ht hi hz .i64 .i64 l c (by omega) (by omega) hb' (by omega)
 simp only [Int.toNat_natCast, hs, Nat.mul_one, hz1, made_zs] at hr
 exact hr
def MakePost (n : Nat) (w : World) (e : Ending) (w' : World) : Prop :=
 ∃ c, n ≤ c ∧ c ≤ n + 4 ∧ e = .returned (.slice (some ⟨w.heap.size, 0, none⟩) n c) ∧ w' = w.alloc (.cells (zs (.int .u64 0) c).toArray 218)
theorem make_zero (w : World) : Calls Tryz.prog 64 #[.slice none 0 0, .int .i64 0] w fun e w' => e = .returned (.slice none 0 0) ∧ w = w' := by
 go_enter Tryz.func64, Tryz.ntmps64
 go_wp2
 go_ret
 exact ⟨rfl, rfl⟩
theorem make_any (n : Nat) (w : World) (h0 : 0 < n) (hn : n ≤ 1099511627776) : Calls Tryz.prog 64 #[.slice none 0 0, .int .i64 n] w (MakePost n w) := by
 by_cases h1 : n = 1
 · subst h1
   have hmk := fun w => run_mk (P := Tryz.prog) 198 218 (.int .u64 0) 8 Tryz.underlying198 infoW rfl 1 1 (by omega) (by omega) (by omega) w
   simp only [Int.natCast_one] at hmk ⊢
   go_enter Tryz.func64, Tryz.ntmps64
   go_wp2
   go_ret
   exact ⟨1, by omega, by omega, rfl, rfl⟩
 · have hmk := fun w => run_mk (P := Tryz.prog) 198 218 (.int .u64 0) 8 Tryz.underlying198 infoW rfl n (n + 4) (by omega) (by omega) (by omega) w
   have e4 : ((n + 4 : Nat) : Int) = (n : Int) + 4 := by omega
   rw [e4] at hmk
   clear e4
   have hne : ((n : Int) == 1) = false := by simp; omega
   go_enter Tryz.func64, Tryz.ntmps64
   go_wp2
   go_ret
   exact ⟨n + 4, by omega, by omega, rfl, rfl⟩
section
variable {P : Program} {w : World}
end
def PutPost (b : Nat) (i : Int) (w : World) (e : Ending) (w' : World) : Prop :=
 e = .returned (.pointer (some ⟨b, 0, none⟩)) ∧ Bg w' w'.heap.size (some ⟨b, 0, none⟩) i ∧ Up (some b) w w'
theorem put_fin {w w1 : World} {z : Nat} {i : Int} {xs : List Nat} {v : Value} {L : List Value} (hz : Blk w z 200 L) (hL : L.length = 2) (hd : ∀ u ∈ L, ∀ m, u ≠ wv m) (hr : Rep 18446744073709551616 xs i.natAbs) (hs : Sl w1 w1.heap.size v (xs.map wv)) (hb : Below w.heap.size w w1) :
   PutPost z i w (.returned (.pointer (some ⟨z, 0, none⟩))) ((w1.setCell ⟨z, 1, none⟩ v).setCell ⟨z, 0, none⟩ (.bool (decide (i < 0)))) := by
 have hk := hz.below hb hz.lt
 have k1 := hk.set 1 v
 have k2 := k1.set 0 (.bool (decide (i < 0)))
 match L, hL with
 | [p, q], _ =>
   obtain ⟨a, c, rfl, _, _⟩ := id hs
   have s1 := hs.far hk (not_wv hd xs) 1 (.slice a (xs.map wv).length c)
   have s2 := s1.far k1 (not_wv (by
     intro u hu m
     simp only [List.set_cons_succ, List.set_cons_zero, List.mem_cons, List.not_mem_nil, or_false] at hu
     rcases hu with rfl | rfl
     · exact hd _ (by simp) m
     · simp [wv]) xs) 0 (.bool (decide (i < 0)))
   refine ⟨rfl, ⟨z, _, rfl, ?_, k2, xs, hr, ?_⟩, ((Up.of_below hb).set 1 _).set 0 _⟩
   · have := hk.lt; simpa [World.setCell] using this
   · simpa [World.setCell] using s2
def VaPost (i : Int) (w : World) (e : Ending) (w' : World) : Prop := ∃ v, e = .returned v ∧ Va w' w'.heap.size v i ∧ Below w.heap.size w w'
def zeroVal : List Value := [.int .i64 0, .bool false, .slice none 0 0, .int .u64 0, .string ByteArray.empty, .slice none 0 0]
theorem Va.store {w w2 : World} {b : Nat} {neg : Bool} {mag : Value} {i : Int} (h : By w2 w2.heap.size mag i.natAbs) (hneg : neg = decide (i < 0)) (hk : Blk w2 b 73 zeroVal) (hb : Below w.heap.size w w2) (hlt : w.heap.size ≤ b) :
   VaPost i w (.returned (.agg #[.int .i64 2, .bool neg, mag, .int .u64 0, .string ByteArray.empty, .slice none 0 0]))
     ((((((w2.setCell ⟨b, 0, none⟩ (.int .i64 2)).setCell ⟨b, 1, none⟩ (.bool neg)).setCell ⟨b, 2, none⟩ mag).setCell ⟨b, 3, none⟩ (.int .u64 0)).setCell ⟨b, 4, none⟩ (.string ByteArray.empty)).setCell ⟨b, 5, none⟩ (.slice none 0 0)) := by
 subst hneg
 obtain ⟨ms, hm, hs⟩ := h
 have hmag : ∀ m, mag ≠ bv m := by
   obtain ⟨a, c, rfl, _⟩ := hs
   intro m; simp [bv]
 refine ⟨_, rfl, ⟨mag, rfl, ms, hm, ?_⟩, ?_⟩
 · have s0 := hs.far hk (not_bv (by simp [zeroVal, bv]) ms) 0 (.int .i64 2)
   have k0 := hk.set 0 (.int .i64 2)
   have s1 := s0.far k0 (not_bv (by simp [zeroVal, bv]) ms) 1 (.bool (decide (i < 0)))
   have k1 := k0.set 1 (.bool (decide (i < 0)))
   have s2 := s1.far k1 (not_bv (by simp [zeroVal, bv]) ms) 2 mag
   have k2 := k1.set 2 mag
   have s3 := s2.far k2 (not_bv (by
     intro u hu m
     simp only [zeroVal, List.set_cons_zero, List.set_cons_succ, List.mem_cons, List.not_mem_nil, or_false] at hu
     rcases hu with rfl | rfl | rfl | rfl | rfl | rfl
     · simp [bv]
     · simp [bv]
     · exact hmag m
     · simp [bv]
     · simp [bv]
     · simp [bv]) ms) 3 (.int .u64 0)
   have k3 := k2.set 3 (.int .u64 0)
   have s4 := s3.far k3 (not_bv (by
     intro u hu m
     simp only [zeroVal, List.set_cons_zero, List.set_cons_succ, List.mem_cons, List.not_mem_nil, or_false] at hu
     rcases hu with rfl | rfl | rfl | rfl | rfl | rfl
     · simp [bv]
     · simp [bv]
     · exact hmag m
     · simp [bv]
     · simp [bv]
     · simp [bv]) ms) 4 (.string ByteArray.empty)
   have k4 := k3.set 4 (.string ByteArray.empty)
   have s5 := s4.far k4 (not_bv (by
     intro u hu m
     simp only [zeroVal, List.set_cons_zero, List.set_cons_succ, List.mem_cons, List.not_mem_nil, or_false] at hu
     rcases hu with rfl | rfl | rfl | rfl | rfl | rfl
     · simp [bv]
     · simp [bv]
     · exact hmag m
     · simp [bv]
     · simp [bv]
     · simp [bv]) ms) 5 (.slice none 0 0)
   simpa [World.setCell] using s5
 · exact (((((hb.setCell (p := ⟨b, 0, none⟩) hlt _).setCell (p := ⟨b, 1, none⟩) hlt _).setCell (p := ⟨b, 2, none⟩) hlt _).setCell (p := ⟨b, 3, none⟩) hlt _).setCell (p := ⟨b, 4, none⟩) hlt _).setCell (p := ⟨b, 5, none⟩) hlt _
end Go.Proofs.YtoojgjhfmmohbaaGreat
