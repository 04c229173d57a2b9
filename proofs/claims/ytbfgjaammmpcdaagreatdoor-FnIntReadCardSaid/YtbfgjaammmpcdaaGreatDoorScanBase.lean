/- What a scan keeps between two signs. -/
import Derived.Test.YtbfgjaammmpcdaaGreatDoorScanSign
import Derived.Test.YtbfgjaammmpcdaaGreatDoorMulWW
import Derived.Test.YtbfgjaammmpcdaaGreatDoorMIr
import Derived.LaidEql
namespace Go.Proofs.YtbfgjaammmpcdaaGreatDoor
open Go.RowKit Dig
set_option linter.unusedVariables false
set_option linter.unusedSimpArgs false
set_option maxRecDepth 100000

/-- what the reader holds, and what was read ahead, behind k signs -/
def Ahead (W : World) (rb : Nat) (s : ByteArray) (E : Value) (k : Nat) (ch err : Value) : Prop :=
  (∃ h : k < s.size, ch = .int .u8 (((s[k]'h).toNat : Nat) : Int) ∧ err = .nilIface ∧ Rdr W rb s (k + 1)) ∨ (k = s.size ∧ ch = .int .u8 0 ∧ err = E ∧ Rdr W rb s s.size)
/-- k digits have been read -/
def ScRel (b n rb : Nat) (s : ByteArray) (ds : List Nat) (E : Value) (w : World) (z fo count err prev iv ch di i dp : Value) (W : World) : Prop :=
  ∃ k : Nat, fo = .bool false ∧ iv = .bool false ∧ dp = .int .i64 (-1) ∧ k ≤ ds.length ∧ count = .int .i64 (k : Int) ∧ prev = .int .i32 (if k = 0 then 46 else 48) ∧ di = .int .u64 ((dOf b n k ds : Nat) : Int) ∧ i = .int .i64 ((k % n : Nat) : Int) ∧ OwnN W w.heap.size z (zOf b n k ds) ∧ Ahead W rb s E k ch err ∧ Up (some rb) w W

theorem infoEs : ((Tryz.prog.info? 178).map (fun i => i.comparable) = some true) ∧ ((Tryz.prog.info? 197).isSome = true) := by constructor <;> kernel_rfl
theorem eql_err (W : World) (a : Addr) : (binOp .eql 119 (.iface 178 (.pointer (some a))) (.iface 178 (.pointer (some a)))).run Tryz.prog W = .ok (.bool true) W := by
  obtain ⟨h1, h2⟩ := infoEs
  cases hi : Tryz.prog.info? 178 with
  | none => rw [hi] at h1; simp at h1
  | some i =>
    cases hj : Tryz.prog.info? 197 with
    | none => rw [hj] at h2; simp at h2
    | some j => exact run_eql_iface_ptr_same W a Tryz.underlying119 (by kernel_rfl) hi (by rw [hi] at h1; simpa using h1) hj
theorem results_tmp4 {fn : Func} {t u v x : Tmp} (h : fn.results = #[.tmp t, .tmp u, .tmp v, .tmp x]) (tmps : Array Value) (P : Program) (w : World) :
    (results fn tmps).run P w = .ok (.tuple #[tmps.getD t undef, tmps.getD u undef, tmps.getD v undef, tmps.getD x undef]) w := by
  simp [results, h]
theorem eql_nil (W : World) (a : Addr) : (binOp .eql 119 .nilIface (.iface 178 (.pointer (some a)))).run Tryz.prog W = .ok (.bool false) W := by
  kernel_rfl
/-- what comes back: all signs were digits, or one was none -/
def NsPost (b rb : Nat) (s : ByteArray) (ds : List Nat) (nP : Addr) (w : World) (e : Ending) (w' : World) : Prop :=
  ∃ v err, e = .returned (.tuple #[v, .int .i64 (b : Int), .int .i64 (ds.length : Int), err]) ∧ Up (some rb) w w' ∧ ((ds.length = s.size ∧ err = .nilIface ∧ OwnN w' w.heap.size v (hval b ds) ∧ Rdr w' rb s s.size) ∨ (ds.length < s.size ∧ (err = .nilIface ∨ err = (.iface 178 (.pointer (some nP)))) ∧ (∃ z, OwnN w' w.heap.size v z) ∧ Rdr w' rb s ds.length))
theorem OwnN.up {w w' : World} {H rb : Nat} {v : Value} {m : Nat} (h : OwnN w H v m) (hb : Up (some rb) w w') (hlt : rb < H) : OwnN w' H v m := by
  rcases h with h | ⟨b, n, c, ws, L, h1, h2, h3, h4, h5, h6, h7, h8, h9, h10⟩
  · exact .inl h
  · exact .inr ⟨b, n, c, ws, L, h1, h2, h3, h4, h5, h6, h7, h8.up hb (by intro e; injection e with e; omega), h9, h10⟩
theorem readNext (rb k : Nat) (s : ByteArray) (E : Value) (w W : World) (hu : Up (some rb) w W) (h : Rdr W rb s k) (hk : k ≤ s.size) (hs : s.size ≤ 1048576) (hE : w.cell? ⟨1, 0, none⟩ = some E) (hne : rb ≠ 1) :
    Calls Tryz.prog 196 #[.pointer (some ⟨rb, 0, none⟩)] W fun e w' => ∃ ch err, e = .returned (.tuple #[ch, err]) ∧ Ahead w' rb s E k ch err ∧ Up (some rb) W w' := by
  by_cases hlt : k < s.size
  · refine (readByte_yes rb s k _ W h hlt rfl hs).mono ?_
    rintro e w' ⟨rfl, h1, h2⟩
    exact ⟨_, _, rfl, .inl ⟨hlt, rfl, rfl, h1⟩, h2⟩
  · obtain rfl : k = s.size := by omega
    have hc : W.cell? ⟨1, 0, none⟩ = some E := (hu.cell hE (by intro e; injection e with e; exact hne e.symm))
    refine (readByte_no rb s E W h hc hne hs).mono ?_
    rintro e w' ⟨rfl, h1, h2⟩
    exact ⟨_, _, rfl, .inr ⟨rfl, rfl, rfl, h1⟩, h2⟩
end Go.Proofs.YtbfgjaammmpcdaaGreatDoor
