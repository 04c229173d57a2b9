/- What a text of digits is; what nat.scan leaves of it. -/
import Derived.Test.YtbfgjaammmpcdaaGreatDoorRdr
import Derived.Test.YtbfgjaammmpcdaaGreatDoorMIr
namespace Go.Proofs.YtbfgjaammmpcdaaGreatDoor
open Go.RowKit Dig
set_option linter.unusedVariables false
set_option linter.unusedSimpArgs false

/-- a text of digits of a base, or of some, and a sign that is none -/
structure NumTxt (b : Nat) (s : ByteArray) (ds : List Nat) : Prop where
  b2 : 2 ≤ b
  b36 : b ≤ 36
  pos : 0 < s.size
  size : s.size ≤ 1000000
  len : ds.length ≤ s.size
  dig : ∀ k (hk : k < s.size), k < ds.length → IsDig (s[k]'hk).toNat (ds.getD k 0) ∧ ds.getD k 0 < b
  bad : ∀ h : ds.length < s.size, (s[ds.length]'h).toNat = sgnOf b
  lim : hval b ds < lim
/-- the variables that a scan reads -/
structure NumGl (eP nP : Addr) (rb : Nat) (w : World) : Prop where
  eof : w.cell? ⟨1, 0, none⟩ = some (.iface 178 (.pointer (some eP)))
  nod : w.cell? ⟨7, 0, none⟩ = some (.iface 178 (.pointer (some nP)))
  ne1 : rb ≠ 1
  ne2 : rb ≠ 7
theorem NumGl.up {eP nP : Addr} {rb : Nat} {w w' : World} (h : NumGl eP nP rb w) (hu : Up (some rb) w w') : NumGl eP nP rb w' :=
  ⟨hu.cell h.eof (by intro e; injection e with e; exact h.ne1 e.symm), hu.cell h.nod (by intro e; injection e with e; exact h.ne2 e.symm), h.ne1, h.ne2⟩
/-- the same ahead of the reader: the variables lie below H -/
structure NumG (eP nP : Addr) (H : Nat) (w : World) : Prop where
  eof : w.cell? ⟨1, 0, none⟩ = some (.iface 178 (.pointer (some eP)))
  nod : w.cell? ⟨7, 0, none⟩ = some (.iface 178 (.pointer (some nP)))
  l1 : 1 < H
  l2 : 7 < H
theorem NumG.below {eP nP : Addr} {H : Nat} {w w' : World} (h : NumG eP nP H w) (hb : Below H w w') : NumG eP nP H w' :=
  ⟨(hb.cell (p := ⟨1, 0, none⟩) h.l1).trans h.eof, (hb.cell (p := ⟨7, 0, none⟩) h.l2).trans h.nod, h.l1, h.l2⟩
theorem NumG.more {eP nP : Addr} {H H' : Nat} {w : World} (h : NumG eP nP H w) (hH : H ≤ H') : NumG eP nP H' w :=
  ⟨h.eof, h.nod, by have := h.l1; omega, by have := h.l2; omega⟩
theorem NumG.gl {eP nP : Addr} {H rb : Nat} {w : World} (h : NumG eP nP H w) (hH : H ≤ rb) : NumGl eP nP rb w :=
  ⟨h.eof, h.nod, by have := h.l1; omega, by have := h.l2; omega⟩
/-- it begins with no sign -/
theorem NumTxt.first {b : Nat} {s : ByteArray} {ds : List Nat} (h : NumTxt b s ds) (x : Nat) (hx : (s[0]'h.pos).toNat = x) : x ≠ 43 ∧ x ≠ 45 := by
  by_cases h0 : 0 < ds.length
  · have := (h.dig 0 h.pos h0).1.not
    rw [hx] at this
    exact ⟨this.1, this.2.1⟩
  · have e : ds.length = 0 := by omega
    have h1 := h.bad (by rw [e]; exact h.pos)
    simp only [e] at h1
    rw [hx] at h1
    have := h.b2
    unfold sgnOf at h1
    split at h1 <;> omega
/-- what comes back: all signs were digits, or one was none -/
def NaPost (b rb : Nat) (s : ByteArray) (ds : List Nat) (nP : Addr) (w : World) (e : Ending) (w' : World) : Prop :=
  ∃ v err, e = .returned (.tuple #[v, .int .i64 (b : Int), .int .i64 (ds.length : Int), err]) ∧ Up (some rb) w w' ∧ ((ds.length = s.size ∧ err = .nilIface ∧ Nt w' w'.heap.size v (hval b ds) ∧ Rdr w' rb s s.size) ∨ (ds.length < s.size ∧ (err = .nilIface ∨ err = (.iface 178 (.pointer (some nP)))) ∧ (∃ m, Nt w' w'.heap.size v m) ∧ Rdr w' rb s ds.length))
end Go.Proofs.YtbfgjaammmpcdaaGreatDoor
