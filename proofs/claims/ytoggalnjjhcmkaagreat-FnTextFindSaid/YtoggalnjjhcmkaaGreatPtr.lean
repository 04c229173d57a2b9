/- Comparisons of pointers to blocks of the call's own. No function of the program. -/
import Derived.Test.YtoggalnjjhcmkaaGreatApp
import Derived.LaidEql
namespace Go.Proofs.YtoggalnjjhcmkaaGreat
open Go.RowKit Dig
set_option linter.unusedVariables false
set_option linter.unusedSimpArgs false

section
variable {P : Program} {w : World}
theorem run_equalIn_ptr_other (d : Nat) {t te : TypeId} {i : TypeInfo} {a b : Nat} {ea eb : TypeId} {La Lb : List Value} (ht : P.underlying t = some (.pointer te)) (hte : P.info? te = some i) (hsz : i.size ≠ 0)
    (hne : a ≠ b) (ha : Blk w a ea La) (hb : Blk w b eb Lb) : (Op.equalIn (d + 1) t (.pointer (some ⟨a, 0, none⟩)) (.pointer (some ⟨b, 0, none⟩))).run P w = .ok false w := by
  have h := run_sameAddr_other (P := P) w (a := ⟨a, 0, none⟩) (b := ⟨b, 0, none⟩) (by intro h; injection h with h; exact hne h) ha hb
  simp [Op.equalIn, run_underlying ht, typeInfo, hte, sizeOf, hsz, h]
theorem run_equalIn_ptr_same (d : Nat) {t te : TypeId} {i : TypeInfo} {a : Addr} (ht : P.underlying t = some (.pointer te)) (hte : P.info? te = some i) (hsz : i.size ≠ 0) :
    (Op.equalIn (d + 1) t (.pointer (some a)) (.pointer (some a))).run P w = .ok true w := by
  simp [Op.equalIn, run_underlying ht, typeInfo, hte, sizeOf, hsz, run_sameAddr_same]
theorem run_equal_ptr_other {t te : TypeId} {i : TypeInfo} {a b : Nat} {ea eb : TypeId} {La Lb : List Value} (ht : P.underlying t = some (.pointer te)) (hte : P.info? te = some i) (hsz : i.size ≠ 0)
    (hne : a ≠ b) (ha : Blk w a ea La) (hb : Blk w b eb Lb) : (Op.equal t (.pointer (some ⟨a, 0, none⟩)) (.pointer (some ⟨b, 0, none⟩))).run P w = .ok false w :=
  run_equalIn_ptr_other 9999 ht hte hsz hne ha hb
theorem run_equal_ptr_same {t te : TypeId} {i : TypeInfo} {a : Addr} (ht : P.underlying t = some (.pointer te)) (hte : P.info? te = some i) (hsz : i.size ≠ 0) :
    (Op.equal t (.pointer (some a)) (.pointer (some a))).run P w = .ok true w := run_equalIn_ptr_same 9999 ht hte hsz
theorem run_neq_ptr_other {t te : TypeId} {i : TypeInfo} {a b : Nat} {ea eb : TypeId} {La Lb : List Value} (ht : P.underlying t = some (.pointer te)) (hte : P.info? te = some i) (hsz : i.size ≠ 0)
    (hne : a ≠ b) (ha : Blk w a ea La) (hb : Blk w b eb Lb) : (binOp .neq t (.pointer (some ⟨a, 0, none⟩)) (.pointer (some ⟨b, 0, none⟩))).run P w = .ok (.bool true) w := by
  simp only [binOp]
  simp [run_equal_ptr_other ht hte hsz hne ha hb]
theorem run_eql_ptr_other {t te : TypeId} {i : TypeInfo} {a b : Nat} {ea eb : TypeId} {La Lb : List Value} (ht : P.underlying t = some (.pointer te)) (hte : P.info? te = some i) (hsz : i.size ≠ 0)
    (hne : a ≠ b) (ha : Blk w a ea La) (hb : Blk w b eb Lb) : (binOp .eql t (.pointer (some ⟨a, 0, none⟩)) (.pointer (some ⟨b, 0, none⟩))).run P w = .ok (.bool false) w := by
  simp only [binOp]
  simp [run_equal_ptr_other ht hte hsz hne ha hb]
theorem run_neq_ptr_same {t te : TypeId} {i : TypeInfo} {a : Addr} (ht : P.underlying t = some (.pointer te)) (hte : P.info? te = some i) (hsz : i.size ≠ 0) :
    (binOp .neq t (.pointer (some a)) (.pointer (some a))).run P w = .ok (.bool false) w := by
  simp only [binOp]
  simp [run_equal_ptr_same ht hte hsz]
theorem run_eql_ptr_same {t te : TypeId} {i : TypeInfo} {a : Addr} (ht : P.underlying t = some (.pointer te)) (hte : P.info? te = some i) (hsz : i.size ≠ 0) :
    (binOp .eql t (.pointer (some a)) (.pointer (some a))).run P w = .ok (.bool true) w := by
  simp only [binOp]
  simp [run_equal_ptr_same ht hte hsz]
end
end Go.Proofs.YtoggalnjjhcmkaaGreat
