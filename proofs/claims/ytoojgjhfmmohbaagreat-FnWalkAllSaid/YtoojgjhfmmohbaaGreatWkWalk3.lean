/- syntax.Walk at any node; at a file (printed by genwkwalk.py). -/
import Derived.Test.YtoojgjhfmmohbaaGreatWkWalk2
namespace Go.Proofs.YtoojgjhfmmohbaaGreat
open Go.RowKit Dig
set_option linter.unusedVariables false
set_option linter.unusedSimpArgs false
set_option maxRecDepth 100000
set_option maxHeartbeats 6400000 in
theorem walk_Ident {G : Nat → Option Obj} {lo hi eb nb sb fb : Nat} (b : Nat) (L : List Value) (tx : ByteArray) (hG : G b = some (.cells L.toArray 65 (0, 0))) (h4 : L[4]? = some (.string tx)) : WkC G lo hi eb nb sb fb (.iface 56 (.pointer (some ⟨b, 0, none⟩))) [tx] 1 := by
 intro W ns n e u hh hcs hq1 hq2
 obtain ⟨l1, l2, l3, l4⟩ := hcs.hl
 have CLO := Li (clo_ident lo hi eb nb sb fb ns n e u b L tx W hcs (hh.blk hG) h4 (by omega))
 clear hh hcs h4
 have taFile := taN 56 49 89 b
 have taExprStmt := taN 56 91 95 b
 have taBranchStmt := taN 56 96 183 b
 have taIfStmt := taN 56 97 99 b
 have taAssignStmt := taN 56 100 104 b
 have taDefStmt := taN 56 105 108 b
 have taForStmt := taN 56 109 111 b
 have taWhileStmt := taN 56 112 114 b
 have taReturnStmt := taN 56 115 117 b
 have taLoadStmt := taN 56 118 121 b
 have taIdent := taY 56 65 b
 have taLit := taN 56 119 190 b
 go_enter Tryz.func17, Tryz.ntmps17
 go_wp2_with fail
 refine CLO.out.mono ?_
 rintro x0 w1 ⟨rfl, hs1, u1, hcs1⟩
 have HST1 := Li hs1
 have CE := Li (clo_nil lo hi eb nb sb fb _ _ _ _ w1 hcs1 (by omega))
 clear CLO hs1 hcs1
 go_wp2_with fail
 refine CE.out.mono ?_
 rintro x9 w9 ⟨rfl, hs9, u9, hcs9⟩
 have HST9 := Li (HST1.out.trans hs9)
 have HCS9 := Li hcs9
 clear CE hs9 hcs9 HST1
 go_wp2_with fail
 first
   | go_end0
   | refine bodyPost_ret (results_none rfl _ _ _) rfl ?_
 exact ⟨rfl, HST9.out, u9, HCS9.out⟩
set_option maxHeartbeats 6400000 in
theorem walk_File {G : Nat → Option Obj} {lo hi eb nb sb fb : Nat} (c : Nat) (IH : ∀ v nn c', c' ≤ c → Nd G v nn c' → WkC G lo hi eb nb sb fb v nn c') (b : Nat) (L : List Value) (hG : G b = some (.cells L.toArray 89 (0, 0))) (ch : List Value) (hch : Ch G L [(2, .s)] ch) (nn : List ByteArray) (hn : Nds G ch nn c) : WkC G lo hi eb nb sb fb (.iface 49 (.pointer (some ⟨b, 0, none⟩))) nn (c + 1) := by
 intro W ns n e u hh hcs hq1 hq2
 obtain ⟨l1, l2, l3, l4⟩ := hcs.hl
 have HL := Li hcs.hl
 have CLO := Li (clo_node lo hi eb nb sb fb ns n e u 49 b (by decide) W hcs (by omega))
 have HH0 := Li hh
 have HI := Li IH
 clear hh hcs IH
 have taFile := taY 49 89 b
 go_enter Tryz.func17, Tryz.ntmps17
 go_wp2_with fail
 refine CLO.out.mono ?_
 rintro x0 w1 ⟨rfl, hs1, u1, hcs1⟩
 have HH1 := Li (HH0.out.step hs1 l1 l2 l3)
 have HST1 := Li hs1
 have HCS1 := Li hcs1
 clear CLO HH0 hs1 hcs1
 cases hch with
 | s _ v0 vs0 _ ch0 h0 hr0 hch =>
 obtain ⟨a0, r0, d0, s0, hd0, hn', rfl, rfl⟩ := Nds.split hn
 clear hn
 have z0 := (HH1.out.blk hG).at h0
 have C0 := Li (walkStmts_of d0 (fun v nn c' hc' h => HI.out v nn c' (by omega) h) v0 vs0 a0 d0 hr0 hd0 (Nat.le_refl _) w1 _ _ _ _ HH1.out HCS1.out (by omega) (by omega))
 go_wp2_with fail
 refine C0.out.mono ?_
 rintro x2 w2 ⟨rfl, hs2, u2, hcs2⟩
 have HH2 := Li (HH1.out.step hs2 l1 l2 l3)
 have hn := hn'
 clear hn'
 have HST2 := Li (HST1.out.trans hs2)
 have HCS2 := Li hcs2
 clear C0 hs2 hcs2 HH1 HST1 HCS1
 cases hch
 cases hn
 have CE := Li (clo_nil lo hi eb nb sb fb _ _ _ _ w2 HCS2.out (by omega))
 clear HH2
 go_wp2_with fail
 refine CE.out.mono ?_
 rintro x9 w9 ⟨rfl, hs9, u9, hcs9⟩
 have HST9 := Li (HST2.out.trans hs9)
 have HCS9 := Li hcs9
 clear CE hs9 hcs9 HST2 HCS2
 go_wp2_with fail
 first
   | go_end0
   | refine bodyPost_ret (results_none rfl _ _ _) rfl ?_
 exact ⟨rfl, HST9.out, u9, HCS9.out.cast (by simp [List.append_assoc]) (by omega) (by omega)⟩
theorem walk_upto (G : Nat → Option Obj) (lo hi eb nb sb fb : Nat) (m : Nat) : ∀ v nn c, c < m → Nd G v nn c → WkC G lo hi eb nb sb fb v nn c := by
 induction m with
 | zero => intro v nn c h; omega
 | succ m ih =>
   intro v nn c hc hnd
   cases hnd with
   | ident b L tx hG h4 => exact walk_Ident b L tx hG h4
   | node T e sl hT b L hG ch hch _ c hn =>
     have IH : ∀ v nn c', c' ≤ c → Nd G v nn c' → WkC G lo hi eb nb sb fb v nn c' := fun v nn c' h => ih v nn c' (by omega)
     simp only [tbl, List.mem_cons, Prod.mk.injEq, List.mem_nil_iff, or_false] at hT
     rcases hT with ⟨rfl, rfl, rfl⟩ | ⟨rfl, rfl, rfl⟩ | ⟨rfl, rfl, rfl⟩ | ⟨rfl, rfl, rfl⟩ | ⟨rfl, rfl, rfl⟩ | ⟨rfl, rfl, rfl⟩ | ⟨rfl, rfl, rfl⟩ | ⟨rfl, rfl, rfl⟩ | ⟨rfl, rfl, rfl⟩ | ⟨rfl, rfl, rfl⟩ | ⟨rfl, rfl, rfl⟩ | ⟨rfl, rfl, rfl⟩ | ⟨rfl, rfl, rfl⟩ | ⟨rfl, rfl, rfl⟩ | ⟨rfl, rfl, rfl⟩ | ⟨rfl, rfl, rfl⟩ | ⟨rfl, rfl, rfl⟩ | ⟨rfl, rfl, rfl⟩ | ⟨rfl, rfl, rfl⟩ | ⟨rfl, rfl, rfl⟩ | ⟨rfl, rfl, rfl⟩ | ⟨rfl, rfl, rfl⟩ | ⟨rfl, rfl, rfl⟩ | ⟨rfl, rfl, rfl⟩ | ⟨rfl, rfl, rfl⟩
     · exact walk_ExprStmt c IH b L hG ch hch nn hn
     · exact walk_BranchStmt c IH b L hG ch hch nn hn
     · exact walk_IfStmt c IH b L hG ch hch nn hn
     · exact walk_AssignStmt c IH b L hG ch hch nn hn
     · exact walk_DefStmt c IH b L hG ch hch nn hn
     · exact walk_ForStmt c IH b L hG ch hch nn hn
     · exact walk_WhileStmt c IH b L hG ch hch nn hn
     · exact walk_ReturnStmt c IH b L hG ch hch nn hn
     · exact walk_Literal c IH b L hG ch hch nn hn
     · exact walk_ListExpr c IH b L hG ch hch nn hn
     · exact walk_ParenExpr c IH b L hG ch hch nn hn
     · exact walk_CondExpr c IH b L hG ch hch nn hn
     · exact walk_IndexExpr c IH b L hG ch hch nn hn
     · exact walk_DictEntry c IH b L hG ch hch nn hn
     · exact walk_SliceExpr c IH b L hG ch hch nn hn
     · exact walk_Comprehension c IH b L hG ch hch nn hn
     · exact walk_IfClause c IH b L hG ch hch nn hn
     · exact walk_ForClause c IH b L hG ch hch nn hn
     · exact walk_TupleExpr c IH b L hG ch hch nn hn
     · exact walk_DictExpr c IH b L hG ch hch nn hn
     · exact walk_UnaryExpr c IH b L hG ch hch nn hn
     · exact walk_BinaryExpr c IH b L hG ch hch nn hn
     · exact walk_DotExpr c IH b L hG ch hch nn hn
     · exact walk_CallExpr c IH b L hG ch hch nn hn
     · exact walk_LambdaExpr c IH b L hG ch hch nn hn
theorem walk_any {G : Nat → Option Obj} {lo hi eb nb sb fb : Nat} {v : Value} {nn : List ByteArray} {c : Nat} (h : Nd G v nn c) : WkC G lo hi eb nb sb fb v nn c := walk_upto G lo hi eb nb sb fb (c + 1) v nn c (Nat.lt_succ_self _) h
theorem walk_file {G : Nat → Option Obj} {lo hi eb nb sb fb b c : Nat} {L vs : List Value} {v : Value} {nn : List ByteArray} (hG : G b = some (.cells L.toArray 89 (0, 0))) (h2 : L[2]? = some v) (hr : RowG G v vs) (hn : Nds G vs nn c) : WkC G lo hi eb nb sb fb (.iface 49 (.pointer (some ⟨b, 0, none⟩))) nn (c + 1) :=
 walk_File c (fun v nn c' _ h => walk_any h) b L hG (vs ++ []) (.s 2 v vs [] [] h2 hr .nil) nn (by rw [List.append_nil]; exact hn)
end Go.Proofs.YtoojgjhfmmohbaaGreat
