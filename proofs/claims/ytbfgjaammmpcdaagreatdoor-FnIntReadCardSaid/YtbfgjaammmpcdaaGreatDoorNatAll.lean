/- nat.scan in every base from 2 to 36; what a text of digits is. -/
import Derived.Test.YtbfgjaammmpcdaaGreatDoorNatScan
import Derived.Test.YtbfgjaammmpcdaaGreatDoorNumTxt
import Derived.Test.YtbfgjaammmpcdaaGreatDoorNatPack2
import Derived.Test.YtbfgjaammmpcdaaGreatDoorNatPack4
import Derived.Test.YtbfgjaammmpcdaaGreatDoorNatPack16
namespace Go.Proofs.YtbfgjaammmpcdaaGreatDoor
open Go.RowKit Dig
set_option linter.unusedVariables false
set_option linter.unusedSimpArgs false

theorem natScan_all (rb b : Nat) (s : ByteArray) (ds : List Nat) (eP nP : Addr) (w : World) (h : Rdr w rb s 0) (ht : NumTxt b s ds) (hg : NumGl eP nP rb w) :
    Calls Tryz.prog 111 #[.slice none 0 0, .iface 99 (.pointer (some ⟨rb, 0, none⟩)), .int .i64 (b : Int), .bool false] w (NaPost b rb s ds nP w) := by
  by_cases q2 : b = 2
  · subst q2; exact natPack2 rb s ds eP nP w h ht hg
  · by_cases q4 : b = 4
    · subst q4; exact natPack4 rb s ds eP nP w h ht hg
    · by_cases q16 : b = 16
      · subst q16; exact natPack16 rb s ds eP nP w h ht hg
      · refine (natScan_any rb b s ds eP nP w h h.lt ht.pos ht.len (by have := ht.size; omega) ht.b2 ht.b36 q2 q4 q16 ht.dig ht.bad ht.lim hg.eof hg.nod hg.ne1 hg.ne2).mono ?_
        rintro e w' ⟨v, err, rfl, hu, hc⟩
        refine ⟨v, err, rfl, hu, ?_⟩
        rcases hc with ⟨h1, h2, h3, h4⟩ | ⟨h1, h2, ⟨m, h3⟩, h4⟩
        · exact .inl ⟨h1, h2, h3.nt, h4⟩
        · exact .inr ⟨h1, h2, ⟨m, h3.nt⟩, h4⟩
end Go.Proofs.YtbfgjaammmpcdaaGreatDoor
