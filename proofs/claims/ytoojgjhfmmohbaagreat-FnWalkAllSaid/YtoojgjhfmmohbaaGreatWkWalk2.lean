/- syntax.Walk at a node: a theorem a kind (printed by genwkwalk.py). -/
import Derived.Test.YtoojgjhfmmohbaaGreatMWalka
namespace Go.Proofs.YtoojgjhfmmohbaaGreat
open Go.RowKit Dig
set_option linter.unusedVariables false
set_option linter.unusedSimpArgs false
set_option maxRecDepth 100000
set_option maxHeartbeats 6400000 in
theorem walk_ExprStmt {G : Nat → Option Obj} {lo hi eb nb sb fb : Nat} (c : Nat) (IH : ∀ v nn c', c' ≤ c → Nd G v nn c' → WkC G lo hi eb nb sb fb v nn c') (b : Nat) (L : List Value) (hG : G b = some (.cells L.toArray 95 (0, 0))) (ch : List Value) (hch : Ch G L [(1, .x)] ch) (nn : List ByteArray) (hn : Nds G ch nn c) : WkC G lo hi eb nb sb fb (.iface 91 (.pointer (some ⟨b, 0, none⟩))) nn (c + 1) := by
 intro W ns n e u hh hcs hq1 hq2
 obtain ⟨l1, l2, l3, l4⟩ := hcs.hl
 have HL := Li hcs.hl
 have CLO := Li (clo_node lo hi eb nb sb fb ns n e u 91 b (by decide) W hcs (by omega))
 have HH0 := Li hh
 have HI := Li IH
 clear hh hcs IH
 have taFile := taN 91 49 89 b
 have taExprStmt := taY 91 95 b
 go_enter Tryz.func17, Tryz.ntmps17
 go_wp2_with fail
 refine CLO.out.mono ?_
 rintro x0 w1 ⟨rfl, hs1, u1, hcs1⟩
 have HH1 := Li (HH0.out.step hs1 l1 l2 l3)
 have HST1 := Li hs1
 have HCS1 := Li hcs1
 clear CLO HH0 hs1 hcs1
 cases hch with
 | x _ v0 _ ch0 h0 hch =>
 cases hn with
 | cons _ _ a0 r0 d0 s0 hd0 hn =>
 have z0 := (HH1.out.blk hG).at h0
 have C0 := Li (HI.out v0 a0 d0 (by omega) hd0 w1 _ _ _ _ HH1.out HCS1.out (by omega) (by omega))
 go_wp2_with fail
 refine C0.out.mono ?_
 rintro x2 w2 ⟨rfl, hs2, u2, hcs2⟩
 have HH2 := Li (HH1.out.step hs2 l1 l2 l3)
 have HST2 := Li (HST1.out.trans hs2)
 have HCS2 := Li hcs2
 clear C0 hs2 hcs2 HH1 HST1 HCS1
 cases hch
 cases hn
 have CE := Li (clo_nil lo hi eb nb sb fb _ _ _ _ w2 HCS2.out (by omega))
 clear HH2
 go_wp2_with fail
 refine CE.out.mono ?_
 rintro x9 w9 ⟨rfl, hs9, u9, hcs9⟩
 have HST9 := Li (HST2.out.trans hs9)
 have HCS9 := Li hcs9
 clear CE hs9 hcs9 HST2 HCS2
 go_wp2_with fail
 first
   | go_end0
   | refine bodyPost_ret (results_none rfl _ _ _) rfl ?_
 exact ⟨rfl, HST9.out, u9, HCS9.out.cast (by simp [List.append_assoc]) (by omega) (by omega)⟩
set_option maxHeartbeats 6400000 in
theorem walk_BranchStmt {G : Nat → Option Obj} {lo hi eb nb sb fb : Nat} (c : Nat) (IH : ∀ v nn c', c' ≤ c → Nd G v nn c' → WkC G lo hi eb nb sb fb v nn c') (b : Nat) (L : List Value) (hG : G b = some (.cells L.toArray 183 (0, 0))) (ch : List Value) (hch : Ch G L [] ch) (nn : List ByteArray) (hn : Nds G ch nn c) : WkC G lo hi eb nb sb fb (.iface 96 (.pointer (some ⟨b, 0, none⟩))) nn (c + 1) := by
 intro W ns n e u hh hcs hq1 hq2
 obtain ⟨l1, l2, l3, l4⟩ := hcs.hl
 have HL := Li hcs.hl
 have CLO := Li (clo_node lo hi eb nb sb fb ns n e u 96 b (by decide) W hcs (by omega))
 have HH0 := Li hh
 have HI := Li IH
 clear hh hcs IH
 have taFile := taN 96 49 89 b
 have taExprStmt := taN 96 91 95 b
 have taBranchStmt := taY 96 183 b
 go_enter Tryz.func17, Tryz.ntmps17
 go_wp2_with fail
 refine CLO.out.mono ?_
 rintro x0 w1 ⟨rfl, hs1, u1, hcs1⟩
 have HH1 := Li (HH0.out.step hs1 l1 l2 l3)
 have HST1 := Li hs1
 have HCS1 := Li hcs1
 clear CLO HH0 hs1 hcs1
 cases hch
 cases hn
 have CE := Li (clo_nil lo hi eb nb sb fb _ _ _ _ w1 HCS1.out (by omega))
 clear HH1
 go_wp2_with fail
 refine CE.out.mono ?_
 rintro x9 w9 ⟨rfl, hs9, u9, hcs9⟩
 have HST9 := Li (HST1.out.trans hs9)
 have HCS9 := Li hcs9
 clear CE hs9 hcs9 HST1 HCS1
 go_wp2_with fail
 first
   | go_end0
   | refine bodyPost_ret (results_none rfl _ _ _) rfl ?_
 exact ⟨rfl, HST9.out, u9, HCS9.out.cast (by simp [List.append_assoc]) (by omega) (by omega)⟩
set_option maxHeartbeats 6400000 in
theorem walk_IfStmt {G : Nat → Option Obj} {lo hi eb nb sb fb : Nat} (c : Nat) (IH : ∀ v nn c', c' ≤ c → Nd G v nn c' → WkC G lo hi eb nb sb fb v nn c') (b : Nat) (L : List Value) (hG : G b = some (.cells L.toArray 99 (0, 0))) (ch : List Value) (hch : Ch G L [(4, .x), (5, .s), (9, .s)] ch) (nn : List ByteArray) (hn : Nds G ch nn c) : WkC G lo hi eb nb sb fb (.iface 97 (.pointer (some ⟨b, 0, none⟩))) nn (c + 1) := by
 intro W ns n e u hh hcs hq1 hq2
 obtain ⟨l1, l2, l3, l4⟩ := hcs.hl
 have HL := Li hcs.hl
 have CLO := Li (clo_node lo hi eb nb sb fb ns n e u 97 b (by decide) W hcs (by omega))
 have HH0 := Li hh
 have HI := Li IH
 clear hh hcs IH
 have taFile := taN 97 49 89 b
 have taExprStmt := taN 97 91 95 b
 have taBranchStmt := taN 97 96 183 b
 have taIfStmt := taY 97 99 b
 go_enter Tryz.func17, Tryz.ntmps17
 go_wp2_with fail
 refine CLO.out.mono ?_
 rintro x0 w1 ⟨rfl, hs1, u1, hcs1⟩
 have HH1 := Li (HH0.out.step hs1 l1 l2 l3)
 have HST1 := Li hs1
 have HCS1 := Li hcs1
 clear CLO HH0 hs1 hcs1
 cases hch with
 | x _ v0 _ ch0 h0 hch =>
 cases hn with
 | cons _ _ a0 r0 d0 s0 hd0 hn =>
 have z0 := (HH1.out.blk hG).at h0
 have C0 := Li (HI.out v0 a0 d0 (by omega) hd0 w1 _ _ _ _ HH1.out HCS1.out (by omega) (by omega))
 go_wp2_with fail
 refine C0.out.mono ?_
 rintro x2 w2 ⟨rfl, hs2, u2, hcs2⟩
 have HH2 := Li (HH1.out.step hs2 l1 l2 l3)
 have HST2 := Li (HST1.out.trans hs2)
 have HCS2 := Li hcs2
 clear C0 hs2 hcs2 HH1 HST1 HCS1
 cases hch with
 | s _ v1 vs1 _ ch1 h1 hr1 hch =>
 obtain ⟨a1, r1, d1, s1, hd1, hn', rfl, rfl⟩ := Nds.split hn
 clear hn
 have z1 := (HH2.out.blk hG).at h1
 have C1 := Li (walkStmts_of d1 (fun v nn c' hc' h => HI.out v nn c' (by omega) h) v1 vs1 a1 d1 hr1 hd1 (Nat.le_refl _) w2 _ _ _ _ HH2.out HCS2.out (by omega) (by omega))
 go_wp2_with fail
 refine C1.out.mono ?_
 rintro x3 w3 ⟨rfl, hs3, u3, hcs3⟩
 have HH3 := Li (HH2.out.step hs3 l1 l2 l3)
 have hn := hn'
 clear hn'
 have HST3 := Li (HST2.out.trans hs3)
 have HCS3 := Li hcs3
 clear C1 hs3 hcs3 HH2 HST2 HCS2
 cases hch with
 | s _ v2 vs2 _ ch2 h2 hr2 hch =>
 obtain ⟨a2, r2, d2, s2, hd2, hn', rfl, rfl⟩ := Nds.split hn
 clear hn
 have z2 := (HH3.out.blk hG).at h2
 have C2 := Li (walkStmts_of d2 (fun v nn c' hc' h => HI.out v nn c' (by omega) h) v2 vs2 a2 d2 hr2 hd2 (Nat.le_refl _) w3 _ _ _ _ HH3.out HCS3.out (by omega) (by omega))
 go_wp2_with fail
 refine C2.out.mono ?_
 rintro x4 w4 ⟨rfl, hs4, u4, hcs4⟩
 have HH4 := Li (HH3.out.step hs4 l1 l2 l3)
 have hn := hn'
 clear hn'
 have HST4 := Li (HST3.out.trans hs4)
 have HCS4 := Li hcs4
 clear C2 hs4 hcs4 HH3 HST3 HCS3
 cases hch
 cases hn
 have CE := Li (clo_nil lo hi eb nb sb fb _ _ _ _ w4 HCS4.out (by omega))
 clear HH4
 go_wp2_with fail
 refine CE.out.mono ?_
 rintro x9 w9 ⟨rfl, hs9, u9, hcs9⟩
 have HST9 := Li (HST4.out.trans hs9)
 have HCS9 := Li hcs9
 clear CE hs9 hcs9 HST4 HCS4
 go_wp2_with fail
 first
   | go_end0
   | refine bodyPost_ret (results_none rfl _ _ _) rfl ?_
 exact ⟨rfl, HST9.out, u9, HCS9.out.cast (by simp [List.append_assoc]) (by omega) (by omega)⟩
set_option maxHeartbeats 6400000 in
theorem walk_AssignStmt {G : Nat → Option Obj} {lo hi eb nb sb fb : Nat} (c : Nat) (IH : ∀ v nn c', c' ≤ c → Nd G v nn c' → WkC G lo hi eb nb sb fb v nn c') (b : Nat) (L : List Value) (hG : G b = some (.cells L.toArray 104 (0, 0))) (ch : List Value) (hch : Ch G L [(5, .x), (6, .x)] ch) (nn : List ByteArray) (hn : Nds G ch nn c) : WkC G lo hi eb nb sb fb (.iface 100 (.pointer (some ⟨b, 0, none⟩))) nn (c + 1) := by
 intro W ns n e u hh hcs hq1 hq2
 obtain ⟨l1, l2, l3, l4⟩ := hcs.hl
 have HL := Li hcs.hl
 have CLO := Li (clo_node lo hi eb nb sb fb ns n e u 100 b (by decide) W hcs (by omega))
 have HH0 := Li hh
 have HI := Li IH
 clear hh hcs IH
 have taFile := taN 100 49 89 b
 have taExprStmt := taN 100 91 95 b
 have taBranchStmt := taN 100 96 183 b
 have taIfStmt := taN 100 97 99 b
 have taAssignStmt := taY 100 104 b
 go_enter Tryz.func17, Tryz.ntmps17
 go_wp2_with fail
 refine CLO.out.mono ?_
 rintro x0 w1 ⟨rfl, hs1, u1, hcs1⟩
 have HH1 := Li (HH0.out.step hs1 l1 l2 l3)
 have HST1 := Li hs1
 have HCS1 := Li hcs1
 clear CLO HH0 hs1 hcs1
 cases hch with
 | x _ v0 _ ch0 h0 hch =>
 cases hn with
 | cons _ _ a0 r0 d0 s0 hd0 hn =>
 have z0 := (HH1.out.blk hG).at h0
 have C0 := Li (HI.out v0 a0 d0 (by omega) hd0 w1 _ _ _ _ HH1.out HCS1.out (by omega) (by omega))
 go_wp2_with fail
 refine C0.out.mono ?_
 rintro x2 w2 ⟨rfl, hs2, u2, hcs2⟩
 have HH2 := Li (HH1.out.step hs2 l1 l2 l3)
 have HST2 := Li (HST1.out.trans hs2)
 have HCS2 := Li hcs2
 clear C0 hs2 hcs2 HH1 HST1 HCS1
 cases hch with
 | x _ v1 _ ch1 h1 hch =>
 cases hn with
 | cons _ _ a1 r1 d1 s1 hd1 hn =>
 have z1 := (HH2.out.blk hG).at h1
 have C1 := Li (HI.out v1 a1 d1 (by omega) hd1 w2 _ _ _ _ HH2.out HCS2.out (by omega) (by omega))
 go_wp2_with fail
 refine C1.out.mono ?_
 rintro x3 w3 ⟨rfl, hs3, u3, hcs3⟩
 have HH3 := Li (HH2.out.step hs3 l1 l2 l3)
 have HST3 := Li (HST2.out.trans hs3)
 have HCS3 := Li hcs3
 clear C1 hs3 hcs3 HH2 HST2 HCS2
 cases hch
 cases hn
 have CE := Li (clo_nil lo hi eb nb sb fb _ _ _ _ w3 HCS3.out (by omega))
 clear HH3
 go_wp2_with fail
 refine CE.out.mono ?_
 rintro x9 w9 ⟨rfl, hs9, u9, hcs9⟩
 have HST9 := Li (HST3.out.trans hs9)
 have HCS9 := Li hcs9
 clear CE hs9 hcs9 HST3 HCS3
 go_wp2_with fail
 first
   | go_end0
   | refine bodyPost_ret (results_none rfl _ _ _) rfl ?_
 exact ⟨rfl, HST9.out, u9, HCS9.out.cast (by simp [List.append_assoc]) (by omega) (by omega)⟩
set_option maxHeartbeats 6400000 in
theorem walk_DefStmt {G : Nat → Option Obj} {lo hi eb nb sb fb : Nat} (c : Nat) (IH : ∀ v nn c', c' ≤ c → Nd G v nn c' → WkC G lo hi eb nb sb fb v nn c') (b : Nat) (L : List Value) (hG : G b = some (.cells L.toArray 108 (0, 0))) (ch : List Value) (hch : Ch G L [(4, .n), (8, .s), (12, .s)] ch) (nn : List ByteArray) (hn : Nds G ch nn c) : WkC G lo hi eb nb sb fb (.iface 105 (.pointer (some ⟨b, 0, none⟩))) nn (c + 1) := by
 intro W ns n e u hh hcs hq1 hq2
 obtain ⟨l1, l2, l3, l4⟩ := hcs.hl
 have HL := Li hcs.hl
 have CLO := Li (clo_node lo hi eb nb sb fb ns n e u 105 b (by decide) W hcs (by omega))
 have HH0 := Li hh
 have HI := Li IH
 clear hh hcs IH
 have taFile := taN 105 49 89 b
 have taExprStmt := taN 105 91 95 b
 have taBranchStmt := taN 105 96 183 b
 have taIfStmt := taN 105 97 99 b
 have taAssignStmt := taN 105 100 104 b
 have taDefStmt := taY 105 108 b
 go_enter Tryz.func17, Tryz.ntmps17
 go_wp2_with fail
 refine CLO.out.mono ?_
 rintro x0 w1 ⟨rfl, hs1, u1, hcs1⟩
 have HH1 := Li (HH0.out.step hs1 l1 l2 l3)
 have HST1 := Li hs1
 have HCS1 := Li hcs1
 clear CLO HH0 hs1 hcs1
 cases hch with
 | n _ p0 _ ch0 h0 hch =>
 cases hn with
 | cons _ _ a0 r0 d0 s0 hd0 hn =>
 have z0 := (HH1.out.blk hG).at h0
 have C0 := Li (HI.out (.iface 56 (.pointer p0)) a0 d0 (by omega) hd0 w1 _ _ _ _ HH1.out HCS1.out (by omega) (by omega))
 go_wp2_with fail
 refine C0.out.mono ?_
 rintro x2 w2 ⟨rfl, hs2, u2, hcs2⟩
 have HH2 := Li (HH1.out.step hs2 l1 l2 l3)
 have HST2 := Li (HST1.out.trans hs2)
 have HCS2 := Li hcs2
 clear C0 hs2 hcs2 HH1 HST1 HCS1
 cases hch with
 | s _ v1 vs1 _ ch1 h1 hr1 hch =>
 obtain ⟨a1, r1, d1, s1, hd1, hn', rfl, rfl⟩ := Nds.split hn
 clear hn
 obtain ⟨la, lc, rfl, hlc, hlm, hrow⟩ := hr1.row
 unfold maxLen at hlm
 have z1 := (HH2.out.blk hG).at h1
 have HN' := Li hn'
 have START : Hid (WLRel G lo hi eb nb sb fb (ns ++ a0) (n + 1 + d0) (e + d0) a1 d1 vs1 w2 (.int .i64 0) w2) := Li (WLRel.start hd1 HCS2.out)
 have HR := Li hrow
 have HHS := HH2
 clear hr1 hrow hn' HCS2
 go_wp2_with fail
 go_loopw [131] (WLRel G lo hi eb nb sb fb (ns ++ a0) (n + 1 + d0) (e + d0) a1 d1 vs1 w2) (fun i _ => vs1.length - (intOf i).toNat)
 case atStart => exact START.out
 case round =>
   obtain ⟨k, n8, n9, c8, c9, u1, hk, rfl, HNDS, HN, HC, HST, HCS⟩ := hrel
   clear START
   by_cases hlt : k < vs1.length
   · obtain ⟨x, hx⟩ : ∃ x, vs1[k]? = some x := ⟨_, List.getElem?_eq_getElem hlt⟩
     obtain ⟨rb, rfl, hcell⟩ := HR.out (by intro h; rw [h] at hlt; simp at hlt)
     obtain ⟨m8, m9, d8, d9, hnd, hrest, hn9, hc9⟩ := WLRel.next hx HNDS.out
     obtain ⟨q1, q2, q3, _⟩ := HL.out
     have hhr := HHS.out.step HST.out q1 q2 q3
     have x0 := hcell _ _ _ hhr k x hx
     have CX := Li (HI.out x m8 d8 (by have := HC.out; omega) hnd wr _ _ _ _ hhr HCS.out (by have := HC.out; omega) (by have := HC.out; omega))
     have ST : Hid (∀ w8 u8, WStp hi eb nb sb wr w8 → CS lo hi eb nb sb fb ((ns ++ a0) ++ n8 ++ m8) ((n + 1 + d0) + c8 + d8) ((e + d0) + c8 + d8) u8 w8 → WLRel G lo hi eb nb sb fb (ns ++ a0) (n + 1 + d0) (e + d0) a1 d1 vs1 w2 (.int .i64 ((k : Int) + 1)) w8) := Li (fun w8 u8 h1 h2 => WLRel.step hlt hn9 HN.out (by have := HC.out; omega) HST.out hrest h1 h2)
     clear hx hcell hnd hrest hn9 hc9 hhr HNDS HN HC HST HCS
     go_wp2_with fail
     refine CX.out.mono ?_
     rintro x8 w8 ⟨rfl, hs8, u8, hcs8⟩
     have FS := Li (ST.out w8 u8 hs8 hcs8)
     clear CX ST hs8 hcs8
     go_wp2_with fail
     go_roundw
     case rel => first | exact FS.out | ((repeat apply Exists.intro); exact ⟨FS.out, rfl⟩)
     case measure => simp [intOf]; omega
   · obtain rfl : k = vs1.length := by omega
     obtain ⟨hs3, hcs3⟩ := WLRel.fin HNDS.out HN.out HC.out HST.out HCS.out
     have HH3 := Li (HHS.out.step hs3 l1 l2 l3)
     have HST3 := Li (HST2.out.trans hs3)
     have HCS3 := Li hcs3
     have hn := HN'.out
     clear HNDS HN HC HST HCS hs3 hcs3 HHS HH2 HST2 HN'
     cases hch with
     | s _ v2 vs2 _ ch2 h2 hr2 hch =>
     obtain ⟨a2, r2, d2, s2, hd2, hn', rfl, rfl⟩ := Nds.split hn
     clear hn
     have z2 := (HH3.out.blk hG).at h2
     have C2 := Li (walkStmts_of d2 (fun v nn c' hc' h => HI.out v nn c' (by omega) h) v2 vs2 a2 d2 hr2 hd2 (Nat.le_refl _) wr _ _ _ _ HH3.out HCS3.out (by omega) (by omega))
     go_wp2_with fail
     refine C2.out.mono ?_
     rintro x4 w4 ⟨rfl, hs4, u4, hcs4⟩
     have HH4 := Li (HH3.out.step hs4 l1 l2 l3)
     have hn := hn'
     clear hn'
     have HST4 := Li (HST3.out.trans hs4)
     have HCS4 := Li hcs4
     clear C2 hs4 hcs4 HH3 HST3 HCS3
     cases hch
     cases hn
     have CE := Li (clo_nil lo hi eb nb sb fb _ _ _ _ w4 HCS4.out (by omega))
     clear HH4
     go_wp2_with fail
     refine CE.out.mono ?_
     rintro x9 w9 ⟨rfl, hs9, u9, hcs9⟩
     have HST9 := Li (HST4.out.trans hs9)
     have HCS9 := Li hcs9
     clear CE hs9 hcs9 HST4 HCS4
     go_wp2_with fail
     first
       | go_end0
       | refine bodyPost_ret (results_none rfl _ _ _) rfl ?_
     exact ⟨rfl, HST9.out, u9, HCS9.out.cast (by simp [List.append_assoc]) (by omega) (by omega)⟩
set_option maxHeartbeats 6400000 in
theorem walk_ForStmt {G : Nat → Option Obj} {lo hi eb nb sb fb : Nat} (c : Nat) (IH : ∀ v nn c', c' ≤ c → Nd G v nn c' → WkC G lo hi eb nb sb fb v nn c') (b : Nat) (L : List Value) (hG : G b = some (.cells L.toArray 111 (0, 0))) (ch : List Value) (hch : Ch G L [(4, .x), (5, .x), (6, .s)] ch) (nn : List ByteArray) (hn : Nds G ch nn c) : WkC G lo hi eb nb sb fb (.iface 109 (.pointer (some ⟨b, 0, none⟩))) nn (c + 1) := by
 intro W ns n e u hh hcs hq1 hq2
 obtain ⟨l1, l2, l3, l4⟩ := hcs.hl
 have HL := Li hcs.hl
 have CLO := Li (clo_node lo hi eb nb sb fb ns n e u 109 b (by decide) W hcs (by omega))
 have HH0 := Li hh
 have HI := Li IH
 clear hh hcs IH
 have taFile := taN 109 49 89 b
 have taExprStmt := taN 109 91 95 b
 have taBranchStmt := taN 109 96 183 b
 have taIfStmt := taN 109 97 99 b
 have taAssignStmt := taN 109 100 104 b
 have taDefStmt := taN 109 105 108 b
 have taForStmt := taY 109 111 b
 go_enter Tryz.func17, Tryz.ntmps17
 go_wp2_with fail
 refine CLO.out.mono ?_
 rintro x0 w1 ⟨rfl, hs1, u1, hcs1⟩
 have HH1 := Li (HH0.out.step hs1 l1 l2 l3)
 have HST1 := Li hs1
 have HCS1 := Li hcs1
 clear CLO HH0 hs1 hcs1
 cases hch with
 | x _ v0 _ ch0 h0 hch =>
 cases hn with
 | cons _ _ a0 r0 d0 s0 hd0 hn =>
 have z0 := (HH1.out.blk hG).at h0
 have C0 := Li (HI.out v0 a0 d0 (by omega) hd0 w1 _ _ _ _ HH1.out HCS1.out (by omega) (by omega))
 go_wp2_with fail
 refine C0.out.mono ?_
 rintro x2 w2 ⟨rfl, hs2, u2, hcs2⟩
 have HH2 := Li (HH1.out.step hs2 l1 l2 l3)
 have HST2 := Li (HST1.out.trans hs2)
 have HCS2 := Li hcs2
 clear C0 hs2 hcs2 HH1 HST1 HCS1
 cases hch with
 | x _ v1 _ ch1 h1 hch =>
 cases hn with
 | cons _ _ a1 r1 d1 s1 hd1 hn =>
 have z1 := (HH2.out.blk hG).at h1
 have C1 := Li (HI.out v1 a1 d1 (by omega) hd1 w2 _ _ _ _ HH2.out HCS2.out (by omega) (by omega))
 go_wp2_with fail
 refine C1.out.mono ?_
 rintro x3 w3 ⟨rfl, hs3, u3, hcs3⟩
 have HH3 := Li (HH2.out.step hs3 l1 l2 l3)
 have HST3 := Li (HST2.out.trans hs3)
 have HCS3 := Li hcs3
 clear C1 hs3 hcs3 HH2 HST2 HCS2
 cases hch with
 | s _ v2 vs2 _ ch2 h2 hr2 hch =>
 obtain ⟨a2, r2, d2, s2, hd2, hn', rfl, rfl⟩ := Nds.split hn
 clear hn
 have z2 := (HH3.out.blk hG).at h2
 have C2 := Li (walkStmts_of d2 (fun v nn c' hc' h => HI.out v nn c' (by omega) h) v2 vs2 a2 d2 hr2 hd2 (Nat.le_refl _) w3 _ _ _ _ HH3.out HCS3.out (by omega) (by omega))
 go_wp2_with fail
 refine C2.out.mono ?_
 rintro x4 w4 ⟨rfl, hs4, u4, hcs4⟩
 have HH4 := Li (HH3.out.step hs4 l1 l2 l3)
 have hn := hn'
 clear hn'
 have HST4 := Li (HST3.out.trans hs4)
 have HCS4 := Li hcs4
 clear C2 hs4 hcs4 HH3 HST3 HCS3
 cases hch
 cases hn
 have CE := Li (clo_nil lo hi eb nb sb fb _ _ _ _ w4 HCS4.out (by omega))
 clear HH4
 go_wp2_with fail
 refine CE.out.mono ?_
 rintro x9 w9 ⟨rfl, hs9, u9, hcs9⟩
 have HST9 := Li (HST4.out.trans hs9)
 have HCS9 := Li hcs9
 clear CE hs9 hcs9 HST4 HCS4
 go_wp2_with fail
 first
   | go_end0
   | refine bodyPost_ret (results_none rfl _ _ _) rfl ?_
 exact ⟨rfl, HST9.out, u9, HCS9.out.cast (by simp [List.append_assoc]) (by omega) (by omega)⟩
set_option maxHeartbeats 6400000 in
theorem walk_WhileStmt {G : Nat → Option Obj} {lo hi eb nb sb fb : Nat} (c : Nat) (IH : ∀ v nn c', c' ≤ c → Nd G v nn c' → WkC G lo hi eb nb sb fb v nn c') (b : Nat) (L : List Value) (hG : G b = some (.cells L.toArray 114 (0, 0))) (ch : List Value) (hch : Ch G L [(4, .x), (5, .s)] ch) (nn : List ByteArray) (hn : Nds G ch nn c) : WkC G lo hi eb nb sb fb (.iface 112 (.pointer (some ⟨b, 0, none⟩))) nn (c + 1) := by
 intro W ns n e u hh hcs hq1 hq2
 obtain ⟨l1, l2, l3, l4⟩ := hcs.hl
 have HL := Li hcs.hl
 have CLO := Li (clo_node lo hi eb nb sb fb ns n e u 112 b (by decide) W hcs (by omega))
 have HH0 := Li hh
 have HI := Li IH
 clear hh hcs IH
 have taFile := taN 112 49 89 b
 have taExprStmt := taN 112 91 95 b
 have taBranchStmt := taN 112 96 183 b
 have taIfStmt := taN 112 97 99 b
 have taAssignStmt := taN 112 100 104 b
 have taDefStmt := taN 112 105 108 b
 have taForStmt := taN 112 109 111 b
 have taWhileStmt := taY 112 114 b
 go_enter Tryz.func17, Tryz.ntmps17
 go_wp2_with fail
 refine CLO.out.mono ?_
 rintro x0 w1 ⟨rfl, hs1, u1, hcs1⟩
 have HH1 := Li (HH0.out.step hs1 l1 l2 l3)
 have HST1 := Li hs1
 have HCS1 := Li hcs1
 clear CLO HH0 hs1 hcs1
 cases hch with
 | x _ v0 _ ch0 h0 hch =>
 cases hn with
 | cons _ _ a0 r0 d0 s0 hd0 hn =>
 have z0 := (HH1.out.blk hG).at h0
 have C0 := Li (HI.out v0 a0 d0 (by omega) hd0 w1 _ _ _ _ HH1.out HCS1.out (by omega) (by omega))
 go_wp2_with fail
 refine C0.out.mono ?_
 rintro x2 w2 ⟨rfl, hs2, u2, hcs2⟩
 have HH2 := Li (HH1.out.step hs2 l1 l2 l3)
 have HST2 := Li (HST1.out.trans hs2)
 have HCS2 := Li hcs2
 clear C0 hs2 hcs2 HH1 HST1 HCS1
 cases hch with
 | s _ v1 vs1 _ ch1 h1 hr1 hch =>
 obtain ⟨a1, r1, d1, s1, hd1, hn', rfl, rfl⟩ := Nds.split hn
 clear hn
 have z1 := (HH2.out.blk hG).at h1
 have C1 := Li (walkStmts_of d1 (fun v nn c' hc' h => HI.out v nn c' (by omega) h) v1 vs1 a1 d1 hr1 hd1 (Nat.le_refl _) w2 _ _ _ _ HH2.out HCS2.out (by omega) (by omega))
 go_wp2_with fail
 refine C1.out.mono ?_
 rintro x3 w3 ⟨rfl, hs3, u3, hcs3⟩
 have HH3 := Li (HH2.out.step hs3 l1 l2 l3)
 have hn := hn'
 clear hn'
 have HST3 := Li (HST2.out.trans hs3)
 have HCS3 := Li hcs3
 clear C1 hs3 hcs3 HH2 HST2 HCS2
 cases hch
 cases hn
 have CE := Li (clo_nil lo hi eb nb sb fb _ _ _ _ w3 HCS3.out (by omega))
 clear HH3
 go_wp2_with fail
 refine CE.out.mono ?_
 rintro x9 w9 ⟨rfl, hs9, u9, hcs9⟩
 have HST9 := Li (HST3.out.trans hs9)
 have HCS9 := Li hcs9
 clear CE hs9 hcs9 HST3 HCS3
 go_wp2_with fail
 first
   | go_end0
   | refine bodyPost_ret (results_none rfl _ _ _) rfl ?_
 exact ⟨rfl, HST9.out, u9, HCS9.out.cast (by simp [List.append_assoc]) (by omega) (by omega)⟩
set_option maxHeartbeats 6400000 in
theorem walk_ReturnStmt {G : Nat → Option Obj} {lo hi eb nb sb fb : Nat} (c : Nat) (IH : ∀ v nn c', c' ≤ c → Nd G v nn c' → WkC G lo hi eb nb sb fb v nn c') (b : Nat) (L : List Value) (hG : G b = some (.cells L.toArray 117 (0, 0))) (ch : List Value) (hch : Ch G L [(4, .o)] ch) (nn : List ByteArray) (hn : Nds G ch nn c) : WkC G lo hi eb nb sb fb (.iface 115 (.pointer (some ⟨b, 0, none⟩))) nn (c + 1) := by
 intro W ns n e u hh hcs hq1 hq2
 obtain ⟨l1, l2, l3, l4⟩ := hcs.hl
 have HL := Li hcs.hl
 have CLO := Li (clo_node lo hi eb nb sb fb ns n e u 115 b (by decide) W hcs (by omega))
 have HH0 := Li hh
 have HI := Li IH
 clear hh hcs IH
 have taFile := taN 115 49 89 b
 have taExprStmt := taN 115 91 95 b
 have taBranchStmt := taN 115 96 183 b
 have taIfStmt := taN 115 97 99 b
 have taAssignStmt := taN 115 100 104 b
 have taDefStmt := taN 115 105 108 b
 have taForStmt := taN 115 109 111 b
 have taWhileStmt := taN 115 112 114 b
 have taReturnStmt := taY 115 117 b
 go_enter Tryz.func17, Tryz.ntmps17
 go_wp2_with fail
 refine CLO.out.mono ?_
 rintro x0 w1 ⟨rfl, hs1, u1, hcs1⟩
 have HH1 := Li (HH0.out.step hs1 l1 l2 l3)
 have HST1 := Li hs1
 have HCS1 := Li hcs1
 clear CLO HH0 hs1 hcs1
 cases hch with
 | none _ _ ch0 h0 hch =>
   have z0 := (HH1.out.blk hG).at h0
   cases hch
   cases hn
   have CE := Li (clo_nil lo hi eb nb sb fb _ _ _ _ w1 HCS1.out (by omega))
   clear HH1
   go_wp2_with fail
   refine CE.out.mono ?_
   rintro x9 w9 ⟨rfl, hs9, u9, hcs9⟩
   have HST9 := Li (HST1.out.trans hs9)
   have HCS9 := Li hcs9
   clear CE hs9 hcs9 HST1 HCS1
   go_wp2_with fail
   first
     | go_end0
     | refine bodyPost_ret (results_none rfl _ _ _) rfl ?_
   exact ⟨rfl, HST9.out, u9, HCS9.out.cast (by simp [List.append_assoc]) (by omega) (by omega)⟩
 | some _ v0 _ ch0 h0 hch =>
   cases hn with
   | cons _ _ a0 r0 d0 s0 hd0 hn =>
   obtain ⟨T0, o0, rfl⟩ := hd0.form
   have z0 := (HH1.out.blk hG).at h0
   have C0 := Li (HI.out _ a0 d0 (by omega) hd0 w1 _ _ _ _ HH1.out HCS1.out (by omega) (by omega))
   go_wp2_with fail
   refine C0.out.mono ?_
   rintro x2 w2 ⟨rfl, hs2, u2, hcs2⟩
   have HH2 := Li (HH1.out.step hs2 l1 l2 l3)
   have y0 := (HH2.out.blk hG).at h0
   have HST2 := Li (HST1.out.trans hs2)
   have HCS2 := Li hcs2
   clear C0 hs2 hcs2 HH1 HST1 HCS1
   cases hch
   cases hn
   have CE := Li (clo_nil lo hi eb nb sb fb _ _ _ _ w2 HCS2.out (by omega))
   clear HH2
   go_wp2_with fail
   refine CE.out.mono ?_
   rintro x9 w9 ⟨rfl, hs9, u9, hcs9⟩
   have HST9 := Li (HST2.out.trans hs9)
   have HCS9 := Li hcs9
   clear CE hs9 hcs9 HST2 HCS2
   go_wp2_with fail
   first
     | go_end0
     | refine bodyPost_ret (results_none rfl _ _ _) rfl ?_
   exact ⟨rfl, HST9.out, u9, HCS9.out.cast (by simp [List.append_assoc]) (by omega) (by omega)⟩
set_option maxHeartbeats 6400000 in
theorem walk_Literal {G : Nat → Option Obj} {lo hi eb nb sb fb : Nat} (c : Nat) (IH : ∀ v nn c', c' ≤ c → Nd G v nn c' → WkC G lo hi eb nb sb fb v nn c') (b : Nat) (L : List Value) (hG : G b = some (.cells L.toArray 190 (0, 0))) (ch : List Value) (hch : Ch G L [] ch) (nn : List ByteArray) (hn : Nds G ch nn c) : WkC G lo hi eb nb sb fb (.iface 119 (.pointer (some ⟨b, 0, none⟩))) nn (c + 1) := by
 intro W ns n e u hh hcs hq1 hq2
 obtain ⟨l1, l2, l3, l4⟩ := hcs.hl
 have HL := Li hcs.hl
 have CLO := Li (clo_node lo hi eb nb sb fb ns n e u 119 b (by decide) W hcs (by omega))
 have HH0 := Li hh
 have HI := Li IH
 clear hh hcs IH
 have taFile := taN 119 49 89 b
 have taExprStmt := taN 119 91 95 b
 have taBranchStmt := taN 119 96 183 b
 have taIfStmt := taN 119 97 99 b
 have taAssignStmt := taN 119 100 104 b
 have taDefStmt := taN 119 105 108 b
 have taForStmt := taN 119 109 111 b
 have taWhileStmt := taN 119 112 114 b
 have taReturnStmt := taN 119 115 117 b
 have taLoadStmt := taN 119 118 121 b
 have taIdent := taN 119 56 65 b
 have taLiteral := taY 119 190 b
 go_enter Tryz.func17, Tryz.ntmps17
 go_wp2_with fail
 refine CLO.out.mono ?_
 rintro x0 w1 ⟨rfl, hs1, u1, hcs1⟩
 have HH1 := Li (HH0.out.step hs1 l1 l2 l3)
 have HST1 := Li hs1
 have HCS1 := Li hcs1
 clear CLO HH0 hs1 hcs1
 cases hch
 cases hn
 have CE := Li (clo_nil lo hi eb nb sb fb _ _ _ _ w1 HCS1.out (by omega))
 clear HH1
 go_wp2_with fail
 refine CE.out.mono ?_
 rintro x9 w9 ⟨rfl, hs9, u9, hcs9⟩
 have HST9 := Li (HST1.out.trans hs9)
 have HCS9 := Li hcs9
 clear CE hs9 hcs9 HST1 HCS1
 go_wp2_with fail
 first
   | go_end0
   | refine bodyPost_ret (results_none rfl _ _ _) rfl ?_
 exact ⟨rfl, HST9.out, u9, HCS9.out.cast (by simp [List.append_assoc]) (by omega) (by omega)⟩
set_option maxHeartbeats 6400000 in
theorem walk_ListExpr {G : Nat → Option Obj} {lo hi eb nb sb fb : Nat} (c : Nat) (IH : ∀ v nn c', c' ≤ c → Nd G v nn c' → WkC G lo hi eb nb sb fb v nn c') (b : Nat) (L : List Value) (hG : G b = some (.cells L.toArray 124 (0, 0))) (ch : List Value) (hch : Ch G L [(4, .s)] ch) (nn : List ByteArray) (hn : Nds G ch nn c) : WkC G lo hi eb nb sb fb (.iface 122 (.pointer (some ⟨b, 0, none⟩))) nn (c + 1) := by
 intro W ns n e u hh hcs hq1 hq2
 obtain ⟨l1, l2, l3, l4⟩ := hcs.hl
 have HL := Li hcs.hl
 have CLO := Li (clo_node lo hi eb nb sb fb ns n e u 122 b (by decide) W hcs (by omega))
 have HH0 := Li hh
 have HI := Li IH
 clear hh hcs IH
 have taFile := taN 122 49 89 b
 have taExprStmt := taN 122 91 95 b
 have taBranchStmt := taN 122 96 183 b
 have taIfStmt := taN 122 97 99 b
 have taAssignStmt := taN 122 100 104 b
 have taDefStmt := taN 122 105 108 b
 have taForStmt := taN 122 109 111 b
 have taWhileStmt := taN 122 112 114 b
 have taReturnStmt := taN 122 115 117 b
 have taLoadStmt := taN 122 118 121 b
 have taIdent := taN 122 56 65 b
 have taLiteral := taN 122 119 190 b
 have taListExpr := taY 122 124 b
 go_enter Tryz.func17, Tryz.ntmps17
 go_wp2_with fail
 refine CLO.out.mono ?_
 rintro x0 w1 ⟨rfl, hs1, u1, hcs1⟩
 have HH1 := Li (HH0.out.step hs1 l1 l2 l3)
 have HST1 := Li hs1
 have HCS1 := Li hcs1
 clear CLO HH0 hs1 hcs1
 cases hch with
 | s _ v0 vs0 _ ch0 h0 hr0 hch =>
 obtain ⟨a0, r0, d0, s0, hd0, hn', rfl, rfl⟩ := Nds.split hn
 clear hn
 obtain ⟨la, lc, rfl, hlc, hlm, hrow⟩ := hr0.row
 unfold maxLen at hlm
 have z0 := (HH1.out.blk hG).at h0
 have HN' := Li hn'
 have START : Hid (WLRel G lo hi eb nb sb fb (ns) (n + 1) (e) a0 d0 vs0 w1 (.int .i64 0) w1) := Li (WLRel.start hd0 HCS1.out)
 have HR := Li hrow
 have HHS := HH1
 clear hr0 hrow hn' HCS1
 go_wp2_with fail
 go_loopw [248] (WLRel G lo hi eb nb sb fb (ns) (n + 1) (e) a0 d0 vs0 w1) (fun i _ => vs0.length - (intOf i).toNat)
 case atStart => exact START.out
 case round =>
   obtain ⟨k, n8, n9, c8, c9, u1, hk, rfl, HNDS, HN, HC, HST, HCS⟩ := hrel
   clear START
   by_cases hlt : k < vs0.length
   · obtain ⟨x, hx⟩ : ∃ x, vs0[k]? = some x := ⟨_, List.getElem?_eq_getElem hlt⟩
     obtain ⟨rb, rfl, hcell⟩ := HR.out (by intro h; rw [h] at hlt; simp at hlt)
     obtain ⟨m8, m9, d8, d9, hnd, hrest, hn9, hc9⟩ := WLRel.next hx HNDS.out
     obtain ⟨q1, q2, q3, _⟩ := HL.out
     have hhr := HHS.out.step HST.out q1 q2 q3
     have x0 := hcell _ _ _ hhr k x hx
     have CX := Li (HI.out x m8 d8 (by have := HC.out; omega) hnd wr _ _ _ _ hhr HCS.out (by have := HC.out; omega) (by have := HC.out; omega))
     have ST : Hid (∀ w8 u8, WStp hi eb nb sb wr w8 → CS lo hi eb nb sb fb ((ns) ++ n8 ++ m8) ((n + 1) + c8 + d8) ((e) + c8 + d8) u8 w8 → WLRel G lo hi eb nb sb fb (ns) (n + 1) (e) a0 d0 vs0 w1 (.int .i64 ((k : Int) + 1)) w8) := Li (fun w8 u8 h1 h2 => WLRel.step hlt hn9 HN.out (by have := HC.out; omega) HST.out hrest h1 h2)
     clear hx hcell hnd hrest hn9 hc9 hhr HNDS HN HC HST HCS
     go_wp2_with fail
     refine CX.out.mono ?_
     rintro x8 w8 ⟨rfl, hs8, u8, hcs8⟩
     have FS := Li (ST.out w8 u8 hs8 hcs8)
     clear CX ST hs8 hcs8
     go_wp2_with fail
     go_roundw
     case rel => first | exact FS.out | ((repeat apply Exists.intro); exact ⟨FS.out, rfl⟩)
     case measure => simp [intOf]; omega
   · obtain rfl : k = vs0.length := by omega
     obtain ⟨hs2, hcs2⟩ := WLRel.fin HNDS.out HN.out HC.out HST.out HCS.out
     have HH2 := Li (HHS.out.step hs2 l1 l2 l3)
     have HST2 := Li (HST1.out.trans hs2)
     have HCS2 := Li hcs2
     have hn := HN'.out
     clear HNDS HN HC HST HCS hs2 hcs2 HHS HH1 HST1 HN'
     cases hch
     cases hn
     have CE := Li (clo_nil lo hi eb nb sb fb _ _ _ _ wr HCS2.out (by omega))
     clear HH2
     go_wp2_with fail
     refine CE.out.mono ?_
     rintro x9 w9 ⟨rfl, hs9, u9, hcs9⟩
     have HST9 := Li (HST2.out.trans hs9)
     have HCS9 := Li hcs9
     clear CE hs9 hcs9 HST2 HCS2
     go_wp2_with fail
     first
       | go_end0
       | refine bodyPost_ret (results_none rfl _ _ _) rfl ?_
     exact ⟨rfl, HST9.out, u9, HCS9.out.cast (by simp [List.append_assoc]) (by omega) (by omega)⟩
set_option maxHeartbeats 6400000 in
theorem walk_ParenExpr {G : Nat → Option Obj} {lo hi eb nb sb fb : Nat} (c : Nat) (IH : ∀ v nn c', c' ≤ c → Nd G v nn c' → WkC G lo hi eb nb sb fb v nn c') (b : Nat) (L : List Value) (hG : G b = some (.cells L.toArray 127 (0, 0))) (ch : List Value) (hch : Ch G L [(4, .x)] ch) (nn : List ByteArray) (hn : Nds G ch nn c) : WkC G lo hi eb nb sb fb (.iface 125 (.pointer (some ⟨b, 0, none⟩))) nn (c + 1) := by
 intro W ns n e u hh hcs hq1 hq2
 obtain ⟨l1, l2, l3, l4⟩ := hcs.hl
 have HL := Li hcs.hl
 have CLO := Li (clo_node lo hi eb nb sb fb ns n e u 125 b (by decide) W hcs (by omega))
 have HH0 := Li hh
 have HI := Li IH
 clear hh hcs IH
 have taFile := taN 125 49 89 b
 have taExprStmt := taN 125 91 95 b
 have taBranchStmt := taN 125 96 183 b
 have taIfStmt := taN 125 97 99 b
 have taAssignStmt := taN 125 100 104 b
 have taDefStmt := taN 125 105 108 b
 have taForStmt := taN 125 109 111 b
 have taWhileStmt := taN 125 112 114 b
 have taReturnStmt := taN 125 115 117 b
 have taLoadStmt := taN 125 118 121 b
 have taIdent := taN 125 56 65 b
 have taLiteral := taN 125 119 190 b
 have taListExpr := taN 125 122 124 b
 have taParenExpr := taY 125 127 b
 go_enter Tryz.func17, Tryz.ntmps17
 go_wp2_with fail
 refine CLO.out.mono ?_
 rintro x0 w1 ⟨rfl, hs1, u1, hcs1⟩
 have HH1 := Li (HH0.out.step hs1 l1 l2 l3)
 have HST1 := Li hs1
 have HCS1 := Li hcs1
 clear CLO HH0 hs1 hcs1
 cases hch with
 | x _ v0 _ ch0 h0 hch =>
 cases hn with
 | cons _ _ a0 r0 d0 s0 hd0 hn =>
 have z0 := (HH1.out.blk hG).at h0
 have C0 := Li (HI.out v0 a0 d0 (by omega) hd0 w1 _ _ _ _ HH1.out HCS1.out (by omega) (by omega))
 go_wp2_with fail
 refine C0.out.mono ?_
 rintro x2 w2 ⟨rfl, hs2, u2, hcs2⟩
 have HH2 := Li (HH1.out.step hs2 l1 l2 l3)
 have HST2 := Li (HST1.out.trans hs2)
 have HCS2 := Li hcs2
 clear C0 hs2 hcs2 HH1 HST1 HCS1
 cases hch
 cases hn
 have CE := Li (clo_nil lo hi eb nb sb fb _ _ _ _ w2 HCS2.out (by omega))
 clear HH2
 go_wp2_with fail
 refine CE.out.mono ?_
 rintro x9 w9 ⟨rfl, hs9, u9, hcs9⟩
 have HST9 := Li (HST2.out.trans hs9)
 have HCS9 := Li hcs9
 clear CE hs9 hcs9 HST2 HCS2
 go_wp2_with fail
 first
   | go_end0
   | refine bodyPost_ret (results_none rfl _ _ _) rfl ?_
 exact ⟨rfl, HST9.out, u9, HCS9.out.cast (by simp [List.append_assoc]) (by omega) (by omega)⟩
set_option maxHeartbeats 6400000 in
theorem walk_CondExpr {G : Nat → Option Obj} {lo hi eb nb sb fb : Nat} (c : Nat) (IH : ∀ v nn c', c' ≤ c → Nd G v nn c' → WkC G lo hi eb nb sb fb v nn c') (b : Nat) (L : List Value) (hG : G b = some (.cells L.toArray 130 (0, 0))) (ch : List Value) (hch : Ch G L [(4, .x), (5, .x), (9, .x)] ch) (nn : List ByteArray) (hn : Nds G ch nn c) : WkC G lo hi eb nb sb fb (.iface 128 (.pointer (some ⟨b, 0, none⟩))) nn (c + 1) := by
 intro W ns n e u hh hcs hq1 hq2
 obtain ⟨l1, l2, l3, l4⟩ := hcs.hl
 have HL := Li hcs.hl
 have CLO := Li (clo_node lo hi eb nb sb fb ns n e u 128 b (by decide) W hcs (by omega))
 have HH0 := Li hh
 have HI := Li IH
 clear hh hcs IH
 have taFile := taN 128 49 89 b
 have taExprStmt := taN 128 91 95 b
 have taBranchStmt := taN 128 96 183 b
 have taIfStmt := taN 128 97 99 b
 have taAssignStmt := taN 128 100 104 b
 have taDefStmt := taN 128 105 108 b
 have taForStmt := taN 128 109 111 b
 have taWhileStmt := taN 128 112 114 b
 have taReturnStmt := taN 128 115 117 b
 have taLoadStmt := taN 128 118 121 b
 have taIdent := taN 128 56 65 b
 have taLiteral := taN 128 119 190 b
 have taListExpr := taN 128 122 124 b
 have taParenExpr := taN 128 125 127 b
 have taCondExpr := taY 128 130 b
 go_enter Tryz.func17, Tryz.ntmps17
 go_wp2_with fail
 refine CLO.out.mono ?_
 rintro x0 w1 ⟨rfl, hs1, u1, hcs1⟩
 have HH1 := Li (HH0.out.step hs1 l1 l2 l3)
 have HST1 := Li hs1
 have HCS1 := Li hcs1
 clear CLO HH0 hs1 hcs1
 cases hch with
 | x _ v0 _ ch0 h0 hch =>
 cases hn with
 | cons _ _ a0 r0 d0 s0 hd0 hn =>
 have z0 := (HH1.out.blk hG).at h0
 have C0 := Li (HI.out v0 a0 d0 (by omega) hd0 w1 _ _ _ _ HH1.out HCS1.out (by omega) (by omega))
 go_wp2_with fail
 refine C0.out.mono ?_
 rintro x2 w2 ⟨rfl, hs2, u2, hcs2⟩
 have HH2 := Li (HH1.out.step hs2 l1 l2 l3)
 have HST2 := Li (HST1.out.trans hs2)
 have HCS2 := Li hcs2
 clear C0 hs2 hcs2 HH1 HST1 HCS1
 cases hch with
 | x _ v1 _ ch1 h1 hch =>
 cases hn with
 | cons _ _ a1 r1 d1 s1 hd1 hn =>
 have z1 := (HH2.out.blk hG).at h1
 have C1 := Li (HI.out v1 a1 d1 (by omega) hd1 w2 _ _ _ _ HH2.out HCS2.out (by omega) (by omega))
 go_wp2_with fail
 refine C1.out.mono ?_
 rintro x3 w3 ⟨rfl, hs3, u3, hcs3⟩
 have HH3 := Li (HH2.out.step hs3 l1 l2 l3)
 have HST3 := Li (HST2.out.trans hs3)
 have HCS3 := Li hcs3
 clear C1 hs3 hcs3 HH2 HST2 HCS2
 cases hch with
 | x _ v2 _ ch2 h2 hch =>
 cases hn with
 | cons _ _ a2 r2 d2 s2 hd2 hn =>
 have z2 := (HH3.out.blk hG).at h2
 have C2 := Li (HI.out v2 a2 d2 (by omega) hd2 w3 _ _ _ _ HH3.out HCS3.out (by omega) (by omega))
 go_wp2_with fail
 refine C2.out.mono ?_
 rintro x4 w4 ⟨rfl, hs4, u4, hcs4⟩
 have HH4 := Li (HH3.out.step hs4 l1 l2 l3)
 have HST4 := Li (HST3.out.trans hs4)
 have HCS4 := Li hcs4
 clear C2 hs4 hcs4 HH3 HST3 HCS3
 cases hch
 cases hn
 have CE := Li (clo_nil lo hi eb nb sb fb _ _ _ _ w4 HCS4.out (by omega))
 clear HH4
 go_wp2_with fail
 refine CE.out.mono ?_
 rintro x9 w9 ⟨rfl, hs9, u9, hcs9⟩
 have HST9 := Li (HST4.out.trans hs9)
 have HCS9 := Li hcs9
 clear CE hs9 hcs9 HST4 HCS4
 go_wp2_with fail
 first
   | go_end0
   | refine bodyPost_ret (results_none rfl _ _ _) rfl ?_
 exact ⟨rfl, HST9.out, u9, HCS9.out.cast (by simp [List.append_assoc]) (by omega) (by omega)⟩
set_option maxHeartbeats 6400000 in
theorem walk_IndexExpr {G : Nat → Option Obj} {lo hi eb nb sb fb : Nat} (c : Nat) (IH : ∀ v nn c', c' ≤ c → Nd G v nn c' → WkC G lo hi eb nb sb fb v nn c') (b : Nat) (L : List Value) (hG : G b = some (.cells L.toArray 133 (0, 0))) (ch : List Value) (hch : Ch G L [(1, .x), (5, .x)] ch) (nn : List ByteArray) (hn : Nds G ch nn c) : WkC G lo hi eb nb sb fb (.iface 131 (.pointer (some ⟨b, 0, none⟩))) nn (c + 1) := by
 intro W ns n e u hh hcs hq1 hq2
 obtain ⟨l1, l2, l3, l4⟩ := hcs.hl
 have HL := Li hcs.hl
 have CLO := Li (clo_node lo hi eb nb sb fb ns n e u 131 b (by decide) W hcs (by omega))
 have HH0 := Li hh
 have HI := Li IH
 clear hh hcs IH
 have taFile := taN 131 49 89 b
 have taExprStmt := taN 131 91 95 b
 have taBranchStmt := taN 131 96 183 b
 have taIfStmt := taN 131 97 99 b
 have taAssignStmt := taN 131 100 104 b
 have taDefStmt := taN 131 105 108 b
 have taForStmt := taN 131 109 111 b
 have taWhileStmt := taN 131 112 114 b
 have taReturnStmt := taN 131 115 117 b
 have taLoadStmt := taN 131 118 121 b
 have taIdent := taN 131 56 65 b
 have taLiteral := taN 131 119 190 b
 have taListExpr := taN 131 122 124 b
 have taParenExpr := taN 131 125 127 b
 have taCondExpr := taN 131 128 130 b
 have taIndexExpr := taY 131 133 b
 go_enter Tryz.func17, Tryz.ntmps17
 go_wp2_with fail
 refine CLO.out.mono ?_
 rintro x0 w1 ⟨rfl, hs1, u1, hcs1⟩
 have HH1 := Li (HH0.out.step hs1 l1 l2 l3)
 have HST1 := Li hs1
 have HCS1 := Li hcs1
 clear CLO HH0 hs1 hcs1
 cases hch with
 | x _ v0 _ ch0 h0 hch =>
 cases hn with
 | cons _ _ a0 r0 d0 s0 hd0 hn =>
 have z0 := (HH1.out.blk hG).at h0
 have C0 := Li (HI.out v0 a0 d0 (by omega) hd0 w1 _ _ _ _ HH1.out HCS1.out (by omega) (by omega))
 go_wp2_with fail
 refine C0.out.mono ?_
 rintro x2 w2 ⟨rfl, hs2, u2, hcs2⟩
 have HH2 := Li (HH1.out.step hs2 l1 l2 l3)
 have HST2 := Li (HST1.out.trans hs2)
 have HCS2 := Li hcs2
 clear C0 hs2 hcs2 HH1 HST1 HCS1
 cases hch with
 | x _ v1 _ ch1 h1 hch =>
 cases hn with
 | cons _ _ a1 r1 d1 s1 hd1 hn =>
 have z1 := (HH2.out.blk hG).at h1
 have C1 := Li (HI.out v1 a1 d1 (by omega) hd1 w2 _ _ _ _ HH2.out HCS2.out (by omega) (by omega))
 go_wp2_with fail
 refine C1.out.mono ?_
 rintro x3 w3 ⟨rfl, hs3, u3, hcs3⟩
 have HH3 := Li (HH2.out.step hs3 l1 l2 l3)
 have HST3 := Li (HST2.out.trans hs3)
 have HCS3 := Li hcs3
 clear C1 hs3 hcs3 HH2 HST2 HCS2
 cases hch
 cases hn
 have CE := Li (clo_nil lo hi eb nb sb fb _ _ _ _ w3 HCS3.out (by omega))
 clear HH3
 go_wp2_with fail
 refine CE.out.mono ?_
 rintro x9 w9 ⟨rfl, hs9, u9, hcs9⟩
 have HST9 := Li (HST3.out.trans hs9)
 have HCS9 := Li hcs9
 clear CE hs9 hcs9 HST3 HCS3
 go_wp2_with fail
 first
   | go_end0
   | refine bodyPost_ret (results_none rfl _ _ _) rfl ?_
 exact ⟨rfl, HST9.out, u9, HCS9.out.cast (by simp [List.append_assoc]) (by omega) (by omega)⟩
set_option maxHeartbeats 6400000 in
theorem walk_DictEntry {G : Nat → Option Obj} {lo hi eb nb sb fb : Nat} (c : Nat) (IH : ∀ v nn c', c' ≤ c → Nd G v nn c' → WkC G lo hi eb nb sb fb v nn c') (b : Nat) (L : List Value) (hG : G b = some (.cells L.toArray 136 (0, 0))) (ch : List Value) (hch : Ch G L [(1, .x), (5, .x)] ch) (nn : List ByteArray) (hn : Nds G ch nn c) : WkC G lo hi eb nb sb fb (.iface 134 (.pointer (some ⟨b, 0, none⟩))) nn (c + 1) := by
 intro W ns n e u hh hcs hq1 hq2
 obtain ⟨l1, l2, l3, l4⟩ := hcs.hl
 have HL := Li hcs.hl
 have CLO := Li (clo_node lo hi eb nb sb fb ns n e u 134 b (by decide) W hcs (by omega))
 have HH0 := Li hh
 have HI := Li IH
 clear hh hcs IH
 have taFile := taN 134 49 89 b
 have taExprStmt := taN 134 91 95 b
 have taBranchStmt := taN 134 96 183 b
 have taIfStmt := taN 134 97 99 b
 have taAssignStmt := taN 134 100 104 b
 have taDefStmt := taN 134 105 108 b
 have taForStmt := taN 134 109 111 b
 have taWhileStmt := taN 134 112 114 b
 have taReturnStmt := taN 134 115 117 b
 have taLoadStmt := taN 134 118 121 b
 have taIdent := taN 134 56 65 b
 have taLiteral := taN 134 119 190 b
 have taListExpr := taN 134 122 124 b
 have taParenExpr := taN 134 125 127 b
 have taCondExpr := taN 134 128 130 b
 have taIndexExpr := taN 134 131 133 b
 have taDictEntry := taY 134 136 b
 go_enter Tryz.func17, Tryz.ntmps17
 go_wp2_with fail
 refine CLO.out.mono ?_
 rintro x0 w1 ⟨rfl, hs1, u1, hcs1⟩
 have HH1 := Li (HH0.out.step hs1 l1 l2 l3)
 have HST1 := Li hs1
 have HCS1 := Li hcs1
 clear CLO HH0 hs1 hcs1
 cases hch with
 | x _ v0 _ ch0 h0 hch =>
 cases hn with
 | cons _ _ a0 r0 d0 s0 hd0 hn =>
 have z0 := (HH1.out.blk hG).at h0
 have C0 := Li (HI.out v0 a0 d0 (by omega) hd0 w1 _ _ _ _ HH1.out HCS1.out (by omega) (by omega))
 go_wp2_with fail
 refine C0.out.mono ?_
 rintro x2 w2 ⟨rfl, hs2, u2, hcs2⟩
 have HH2 := Li (HH1.out.step hs2 l1 l2 l3)
 have HST2 := Li (HST1.out.trans hs2)
 have HCS2 := Li hcs2
 clear C0 hs2 hcs2 HH1 HST1 HCS1
 cases hch with
 | x _ v1 _ ch1 h1 hch =>
 cases hn with
 | cons _ _ a1 r1 d1 s1 hd1 hn =>
 have z1 := (HH2.out.blk hG).at h1
 have C1 := Li (HI.out v1 a1 d1 (by omega) hd1 w2 _ _ _ _ HH2.out HCS2.out (by omega) (by omega))
 go_wp2_with fail
 refine C1.out.mono ?_
 rintro x3 w3 ⟨rfl, hs3, u3, hcs3⟩
 have HH3 := Li (HH2.out.step hs3 l1 l2 l3)
 have HST3 := Li (HST2.out.trans hs3)
 have HCS3 := Li hcs3
 clear C1 hs3 hcs3 HH2 HST2 HCS2
 cases hch
 cases hn
 have CE := Li (clo_nil lo hi eb nb sb fb _ _ _ _ w3 HCS3.out (by omega))
 clear HH3
 go_wp2_with fail
 refine CE.out.mono ?_
 rintro x9 w9 ⟨rfl, hs9, u9, hcs9⟩
 have HST9 := Li (HST3.out.trans hs9)
 have HCS9 := Li hcs9
 clear CE hs9 hcs9 HST3 HCS3
 go_wp2_with fail
 first
   | go_end0
   | refine bodyPost_ret (results_none rfl _ _ _) rfl ?_
 exact ⟨rfl, HST9.out, u9, HCS9.out.cast (by simp [List.append_assoc]) (by omega) (by omega)⟩
set_option maxHeartbeats 6400000 in
theorem walk_SliceExpr {G : Nat → Option Obj} {lo hi eb nb sb fb : Nat} (c : Nat) (IH : ∀ v nn c', c' ≤ c → Nd G v nn c' → WkC G lo hi eb nb sb fb v nn c') (b : Nat) (L : List Value) (hG : G b = some (.cells L.toArray 139 (0, 0))) (ch : List Value) (hch : Ch G L [(1, .x), (5, .o), (6, .o), (7, .o)] ch) (nn : List ByteArray) (hn : Nds G ch nn c) : WkC G lo hi eb nb sb fb (.iface 137 (.pointer (some ⟨b, 0, none⟩))) nn (c + 1) := by
 intro W ns n e u hh hcs hq1 hq2
 obtain ⟨l1, l2, l3, l4⟩ := hcs.hl
 have HL := Li hcs.hl
 have CLO := Li (clo_node lo hi eb nb sb fb ns n e u 137 b (by decide) W hcs (by omega))
 have HH0 := Li hh
 have HI := Li IH
 clear hh hcs IH
 have taFile := taN 137 49 89 b
 have taExprStmt := taN 137 91 95 b
 have taBranchStmt := taN 137 96 183 b
 have taIfStmt := taN 137 97 99 b
 have taAssignStmt := taN 137 100 104 b
 have taDefStmt := taN 137 105 108 b
 have taForStmt := taN 137 109 111 b
 have taWhileStmt := taN 137 112 114 b
 have taReturnStmt := taN 137 115 117 b
 have taLoadStmt := taN 137 118 121 b
 have taIdent := taN 137 56 65 b
 have taLiteral := taN 137 119 190 b
 have taListExpr := taN 137 122 124 b
 have taParenExpr := taN 137 125 127 b
 have taCondExpr := taN 137 128 130 b
 have taIndexExpr := taN 137 131 133 b
 have taDictEntry := taN 137 134 136 b
 have taSliceExpr := taY 137 139 b
 go_enter Tryz.func17, Tryz.ntmps17
 go_wp2_with fail
 refine CLO.out.mono ?_
 rintro x0 w1 ⟨rfl, hs1, u1, hcs1⟩
 have HH1 := Li (HH0.out.step hs1 l1 l2 l3)
 have HST1 := Li hs1
 have HCS1 := Li hcs1
 clear CLO HH0 hs1 hcs1
 cases hch with
 | x _ v0 _ ch0 h0 hch =>
 cases hn with
 | cons _ _ a0 r0 d0 s0 hd0 hn =>
 have z0 := (HH1.out.blk hG).at h0
 have C0 := Li (HI.out v0 a0 d0 (by omega) hd0 w1 _ _ _ _ HH1.out HCS1.out (by omega) (by omega))
 go_wp2_with fail
 refine C0.out.mono ?_
 rintro x2 w2 ⟨rfl, hs2, u2, hcs2⟩
 have HH2 := Li (HH1.out.step hs2 l1 l2 l3)
 have HST2 := Li (HST1.out.trans hs2)
 have HCS2 := Li hcs2
 clear C0 hs2 hcs2 HH1 HST1 HCS1
 cases hch with
 | none _ _ ch1 h1 hch =>
   have z1 := (HH2.out.blk hG).at h1
   cases hch with
   | none _ _ ch2 h2 hch =>
     have z2 := (HH2.out.blk hG).at h2
     cases hch with
     | none _ _ ch3 h3 hch =>
       have z3 := (HH2.out.blk hG).at h3
       cases hch
       cases hn
       have CE := Li (clo_nil lo hi eb nb sb fb _ _ _ _ w2 HCS2.out (by omega))
       clear HH2
       go_wp2_with fail
       refine CE.out.mono ?_
       rintro x9 w9 ⟨rfl, hs9, u9, hcs9⟩
       have HST9 := Li (HST2.out.trans hs9)
       have HCS9 := Li hcs9
       clear CE hs9 hcs9 HST2 HCS2
       go_wp2_with fail
       first
         | go_end0
         | refine bodyPost_ret (results_none rfl _ _ _) rfl ?_
       exact ⟨rfl, HST9.out, u9, HCS9.out.cast (by simp [List.append_assoc]) (by omega) (by omega)⟩
     | some _ v3 _ ch3 h3 hch =>
       cases hn with
       | cons _ _ a3 r3 d3 s3 hd3 hn =>
       obtain ⟨T3, o3, rfl⟩ := hd3.form
       have z3 := (HH2.out.blk hG).at h3
       have C3 := Li (HI.out _ a3 d3 (by omega) hd3 w2 _ _ _ _ HH2.out HCS2.out (by omega) (by omega))
       go_wp2_with fail
       refine C3.out.mono ?_
       rintro x3 w3 ⟨rfl, hs3, u3, hcs3⟩
       have HH3 := Li (HH2.out.step hs3 l1 l2 l3)
       have y3 := (HH3.out.blk hG).at h3
       have HST3 := Li (HST2.out.trans hs3)
       have HCS3 := Li hcs3
       clear C3 hs3 hcs3 HH2 HST2 HCS2
       cases hch
       cases hn
       have CE := Li (clo_nil lo hi eb nb sb fb _ _ _ _ w3 HCS3.out (by omega))
       clear HH3
       go_wp2_with fail
       refine CE.out.mono ?_
       rintro x9 w9 ⟨rfl, hs9, u9, hcs9⟩
       have HST9 := Li (HST3.out.trans hs9)
       have HCS9 := Li hcs9
       clear CE hs9 hcs9 HST3 HCS3
       go_wp2_with fail
       first
         | go_end0
         | refine bodyPost_ret (results_none rfl _ _ _) rfl ?_
       exact ⟨rfl, HST9.out, u9, HCS9.out.cast (by simp [List.append_assoc]) (by omega) (by omega)⟩
   | some _ v2 _ ch2 h2 hch =>
     cases hn with
     | cons _ _ a2 r2 d2 s2 hd2 hn =>
     obtain ⟨T2, o2, rfl⟩ := hd2.form
     have z2 := (HH2.out.blk hG).at h2
     have C2 := Li (HI.out _ a2 d2 (by omega) hd2 w2 _ _ _ _ HH2.out HCS2.out (by omega) (by omega))
     go_wp2_with fail
     refine C2.out.mono ?_
     rintro x3 w3 ⟨rfl, hs3, u3, hcs3⟩
     have HH3 := Li (HH2.out.step hs3 l1 l2 l3)
     have y2 := (HH3.out.blk hG).at h2
     have HST3 := Li (HST2.out.trans hs3)
     have HCS3 := Li hcs3
     clear C2 hs3 hcs3 HH2 HST2 HCS2
     cases hch with
     | none _ _ ch3 h3 hch =>
       have z3 := (HH3.out.blk hG).at h3
       cases hch
       cases hn
       have CE := Li (clo_nil lo hi eb nb sb fb _ _ _ _ w3 HCS3.out (by omega))
       clear HH3
       go_wp2_with fail
       refine CE.out.mono ?_
       rintro x9 w9 ⟨rfl, hs9, u9, hcs9⟩
       have HST9 := Li (HST3.out.trans hs9)
       have HCS9 := Li hcs9
       clear CE hs9 hcs9 HST3 HCS3
       go_wp2_with fail
       first
         | go_end0
         | refine bodyPost_ret (results_none rfl _ _ _) rfl ?_
       exact ⟨rfl, HST9.out, u9, HCS9.out.cast (by simp [List.append_assoc]) (by omega) (by omega)⟩
     | some _ v3 _ ch3 h3 hch =>
       cases hn with
       | cons _ _ a3 r3 d3 s3 hd3 hn =>
       obtain ⟨T3, o3, rfl⟩ := hd3.form
       have z3 := (HH3.out.blk hG).at h3
       have C3 := Li (HI.out _ a3 d3 (by omega) hd3 w3 _ _ _ _ HH3.out HCS3.out (by omega) (by omega))
       go_wp2_with fail
       refine C3.out.mono ?_
       rintro x4 w4 ⟨rfl, hs4, u4, hcs4⟩
       have HH4 := Li (HH3.out.step hs4 l1 l2 l3)
       have y3 := (HH4.out.blk hG).at h3
       have HST4 := Li (HST3.out.trans hs4)
       have HCS4 := Li hcs4
       clear C3 hs4 hcs4 HH3 HST3 HCS3
       cases hch
       cases hn
       have CE := Li (clo_nil lo hi eb nb sb fb _ _ _ _ w4 HCS4.out (by omega))
       clear HH4
       go_wp2_with fail
       refine CE.out.mono ?_
       rintro x9 w9 ⟨rfl, hs9, u9, hcs9⟩
       have HST9 := Li (HST4.out.trans hs9)
       have HCS9 := Li hcs9
       clear CE hs9 hcs9 HST4 HCS4
       go_wp2_with fail
       first
         | go_end0
         | refine bodyPost_ret (results_none rfl _ _ _) rfl ?_
       exact ⟨rfl, HST9.out, u9, HCS9.out.cast (by simp [List.append_assoc]) (by omega) (by omega)⟩
 | some _ v1 _ ch1 h1 hch =>
   cases hn with
   | cons _ _ a1 r1 d1 s1 hd1 hn =>
   obtain ⟨T1, o1, rfl⟩ := hd1.form
   have z1 := (HH2.out.blk hG).at h1
   have C1 := Li (HI.out _ a1 d1 (by omega) hd1 w2 _ _ _ _ HH2.out HCS2.out (by omega) (by omega))
   go_wp2_with fail
   refine C1.out.mono ?_
   rintro x3 w3 ⟨rfl, hs3, u3, hcs3⟩
   have HH3 := Li (HH2.out.step hs3 l1 l2 l3)
   have y1 := (HH3.out.blk hG).at h1
   have HST3 := Li (HST2.out.trans hs3)
   have HCS3 := Li hcs3
   clear C1 hs3 hcs3 HH2 HST2 HCS2
   cases hch with
   | none _ _ ch2 h2 hch =>
     have z2 := (HH3.out.blk hG).at h2
     cases hch with
     | none _ _ ch3 h3 hch =>
       have z3 := (HH3.out.blk hG).at h3
       cases hch
       cases hn
       have CE := Li (clo_nil lo hi eb nb sb fb _ _ _ _ w3 HCS3.out (by omega))
       clear HH3
       go_wp2_with fail
       refine CE.out.mono ?_
       rintro x9 w9 ⟨rfl, hs9, u9, hcs9⟩
       have HST9 := Li (HST3.out.trans hs9)
       have HCS9 := Li hcs9
       clear CE hs9 hcs9 HST3 HCS3
       go_wp2_with fail
       first
         | go_end0
         | refine bodyPost_ret (results_none rfl _ _ _) rfl ?_
       exact ⟨rfl, HST9.out, u9, HCS9.out.cast (by simp [List.append_assoc]) (by omega) (by omega)⟩
     | some _ v3 _ ch3 h3 hch =>
       cases hn with
       | cons _ _ a3 r3 d3 s3 hd3 hn =>
       obtain ⟨T3, o3, rfl⟩ := hd3.form
       have z3 := (HH3.out.blk hG).at h3
       have C3 := Li (HI.out _ a3 d3 (by omega) hd3 w3 _ _ _ _ HH3.out HCS3.out (by omega) (by omega))
       go_wp2_with fail
       refine C3.out.mono ?_
       rintro x4 w4 ⟨rfl, hs4, u4, hcs4⟩
       have HH4 := Li (HH3.out.step hs4 l1 l2 l3)
       have y3 := (HH4.out.blk hG).at h3
       have HST4 := Li (HST3.out.trans hs4)
       have HCS4 := Li hcs4
       clear C3 hs4 hcs4 HH3 HST3 HCS3
       cases hch
       cases hn
       have CE := Li (clo_nil lo hi eb nb sb fb _ _ _ _ w4 HCS4.out (by omega))
       clear HH4
       go_wp2_with fail
       refine CE.out.mono ?_
       rintro x9 w9 ⟨rfl, hs9, u9, hcs9⟩
       have HST9 := Li (HST4.out.trans hs9)
       have HCS9 := Li hcs9
       clear CE hs9 hcs9 HST4 HCS4
       go_wp2_with fail
       first
         | go_end0
         | refine bodyPost_ret (results_none rfl _ _ _) rfl ?_
       exact ⟨rfl, HST9.out, u9, HCS9.out.cast (by simp [List.append_assoc]) (by omega) (by omega)⟩
   | some _ v2 _ ch2 h2 hch =>
     cases hn with
     | cons _ _ a2 r2 d2 s2 hd2 hn =>
     obtain ⟨T2, o2, rfl⟩ := hd2.form
     have z2 := (HH3.out.blk hG).at h2
     have C2 := Li (HI.out _ a2 d2 (by omega) hd2 w3 _ _ _ _ HH3.out HCS3.out (by omega) (by omega))
     go_wp2_with fail
     refine C2.out.mono ?_
     rintro x4 w4 ⟨rfl, hs4, u4, hcs4⟩
     have HH4 := Li (HH3.out.step hs4 l1 l2 l3)
     have y2 := (HH4.out.blk hG).at h2
     have HST4 := Li (HST3.out.trans hs4)
     have HCS4 := Li hcs4
     clear C2 hs4 hcs4 HH3 HST3 HCS3
     cases hch with
     | none _ _ ch3 h3 hch =>
       have z3 := (HH4.out.blk hG).at h3
       cases hch
       cases hn
       have CE := Li (clo_nil lo hi eb nb sb fb _ _ _ _ w4 HCS4.out (by omega))
       clear HH4
       go_wp2_with fail
       refine CE.out.mono ?_
       rintro x9 w9 ⟨rfl, hs9, u9, hcs9⟩
       have HST9 := Li (HST4.out.trans hs9)
       have HCS9 := Li hcs9
       clear CE hs9 hcs9 HST4 HCS4
       go_wp2_with fail
       first
         | go_end0
         | refine bodyPost_ret (results_none rfl _ _ _) rfl ?_
       exact ⟨rfl, HST9.out, u9, HCS9.out.cast (by simp [List.append_assoc]) (by omega) (by omega)⟩
     | some _ v3 _ ch3 h3 hch =>
       cases hn with
       | cons _ _ a3 r3 d3 s3 hd3 hn =>
       obtain ⟨T3, o3, rfl⟩ := hd3.form
       have z3 := (HH4.out.blk hG).at h3
       have C3 := Li (HI.out _ a3 d3 (by omega) hd3 w4 _ _ _ _ HH4.out HCS4.out (by omega) (by omega))
       go_wp2_with fail
       refine C3.out.mono ?_
       rintro x5 w5 ⟨rfl, hs5, u5, hcs5⟩
       have HH5 := Li (HH4.out.step hs5 l1 l2 l3)
       have y3 := (HH5.out.blk hG).at h3
       have HST5 := Li (HST4.out.trans hs5)
       have HCS5 := Li hcs5
       clear C3 hs5 hcs5 HH4 HST4 HCS4
       cases hch
       cases hn
       have CE := Li (clo_nil lo hi eb nb sb fb _ _ _ _ w5 HCS5.out (by omega))
       clear HH5
       go_wp2_with fail
       refine CE.out.mono ?_
       rintro x9 w9 ⟨rfl, hs9, u9, hcs9⟩
       have HST9 := Li (HST5.out.trans hs9)
       have HCS9 := Li hcs9
       clear CE hs9 hcs9 HST5 HCS5
       go_wp2_with fail
       first
         | go_end0
         | refine bodyPost_ret (results_none rfl _ _ _) rfl ?_
       exact ⟨rfl, HST9.out, u9, HCS9.out.cast (by simp [List.append_assoc]) (by omega) (by omega)⟩
set_option maxHeartbeats 6400000 in
theorem walk_Comprehension {G : Nat → Option Obj} {lo hi eb nb sb fb : Nat} (c : Nat) (IH : ∀ v nn c', c' ≤ c → Nd G v nn c' → WkC G lo hi eb nb sb fb v nn c') (b : Nat) (L : List Value) (hG : G b = some (.cells L.toArray 142 (0, 0))) (ch : List Value) (hch : Ch G L [(5, .x), (6, .s)] ch) (nn : List ByteArray) (hn : Nds G ch nn c) : WkC G lo hi eb nb sb fb (.iface 140 (.pointer (some ⟨b, 0, none⟩))) nn (c + 1) := by
 intro W ns n e u hh hcs hq1 hq2
 obtain ⟨l1, l2, l3, l4⟩ := hcs.hl
 have HL := Li hcs.hl
 have CLO := Li (clo_node lo hi eb nb sb fb ns n e u 140 b (by decide) W hcs (by omega))
 have HH0 := Li hh
 have HI := Li IH
 clear hh hcs IH
 have taFile := taN 140 49 89 b
 have taExprStmt := taN 140 91 95 b
 have taBranchStmt := taN 140 96 183 b
 have taIfStmt := taN 140 97 99 b
 have taAssignStmt := taN 140 100 104 b
 have taDefStmt := taN 140 105 108 b
 have taForStmt := taN 140 109 111 b
 have taWhileStmt := taN 140 112 114 b
 have taReturnStmt := taN 140 115 117 b
 have taLoadStmt := taN 140 118 121 b
 have taIdent := taN 140 56 65 b
 have taLiteral := taN 140 119 190 b
 have taListExpr := taN 140 122 124 b
 have taParenExpr := taN 140 125 127 b
 have taCondExpr := taN 140 128 130 b
 have taIndexExpr := taN 140 131 133 b
 have taDictEntry := taN 140 134 136 b
 have taSliceExpr := taN 140 137 139 b
 have taComprehension := taY 140 142 b
 go_enter Tryz.func17, Tryz.ntmps17
 go_wp2_with fail
 refine CLO.out.mono ?_
 rintro x0 w1 ⟨rfl, hs1, u1, hcs1⟩
 have HH1 := Li (HH0.out.step hs1 l1 l2 l3)
 have HST1 := Li hs1
 have HCS1 := Li hcs1
 clear CLO HH0 hs1 hcs1
 cases hch with
 | x _ v0 _ ch0 h0 hch =>
 cases hn with
 | cons _ _ a0 r0 d0 s0 hd0 hn =>
 have z0 := (HH1.out.blk hG).at h0
 have C0 := Li (HI.out v0 a0 d0 (by omega) hd0 w1 _ _ _ _ HH1.out HCS1.out (by omega) (by omega))
 go_wp2_with fail
 refine C0.out.mono ?_
 rintro x2 w2 ⟨rfl, hs2, u2, hcs2⟩
 have HH2 := Li (HH1.out.step hs2 l1 l2 l3)
 have HST2 := Li (HST1.out.trans hs2)
 have HCS2 := Li hcs2
 clear C0 hs2 hcs2 HH1 HST1 HCS1
 cases hch with
 | s _ v1 vs1 _ ch1 h1 hr1 hch =>
 obtain ⟨a1, r1, d1, s1, hd1, hn', rfl, rfl⟩ := Nds.split hn
 clear hn
 obtain ⟨la, lc, rfl, hlc, hlm, hrow⟩ := hr1.row
 unfold maxLen at hlm
 have z1 := (HH2.out.blk hG).at h1
 have HN' := Li hn'
 have START : Hid (WLRel G lo hi eb nb sb fb (ns ++ a0) (n + 1 + d0) (e + d0) a1 d1 vs1 w2 (.int .i64 0) w2) := Li (WLRel.start hd1 HCS2.out)
 have HR := Li hrow
 have HHS := HH2
 clear hr1 hrow hn' HCS2
 go_wp2_with fail
 go_loopw [372] (WLRel G lo hi eb nb sb fb (ns ++ a0) (n + 1 + d0) (e + d0) a1 d1 vs1 w2) (fun i _ => vs1.length - (intOf i).toNat)
 case atStart => exact START.out
 case round =>
   obtain ⟨k, n8, n9, c8, c9, u1, hk, rfl, HNDS, HN, HC, HST, HCS⟩ := hrel
   clear START
   by_cases hlt : k < vs1.length
   · obtain ⟨x, hx⟩ : ∃ x, vs1[k]? = some x := ⟨_, List.getElem?_eq_getElem hlt⟩
     obtain ⟨rb, rfl, hcell⟩ := HR.out (by intro h; rw [h] at hlt; simp at hlt)
     obtain ⟨m8, m9, d8, d9, hnd, hrest, hn9, hc9⟩ := WLRel.next hx HNDS.out
     obtain ⟨q1, q2, q3, _⟩ := HL.out
     have hhr := HHS.out.step HST.out q1 q2 q3
     have x0 := hcell _ _ _ hhr k x hx
     have CX := Li (HI.out x m8 d8 (by have := HC.out; omega) hnd wr _ _ _ _ hhr HCS.out (by have := HC.out; omega) (by have := HC.out; omega))
     have ST : Hid (∀ w8 u8, WStp hi eb nb sb wr w8 → CS lo hi eb nb sb fb ((ns ++ a0) ++ n8 ++ m8) ((n + 1 + d0) + c8 + d8) ((e + d0) + c8 + d8) u8 w8 → WLRel G lo hi eb nb sb fb (ns ++ a0) (n + 1 + d0) (e + d0) a1 d1 vs1 w2 (.int .i64 ((k : Int) + 1)) w8) := Li (fun w8 u8 h1 h2 => WLRel.step hlt hn9 HN.out (by have := HC.out; omega) HST.out hrest h1 h2)
     clear hx hcell hnd hrest hn9 hc9 hhr HNDS HN HC HST HCS
     go_wp2_with fail
     refine CX.out.mono ?_
     rintro x8 w8 ⟨rfl, hs8, u8, hcs8⟩
     have FS := Li (ST.out w8 u8 hs8 hcs8)
     clear CX ST hs8 hcs8
     go_wp2_with fail
     go_roundw
     case rel => first | exact FS.out | ((repeat apply Exists.intro); exact ⟨FS.out, rfl⟩)
     case measure => simp [intOf]; omega
   · obtain rfl : k = vs1.length := by omega
     obtain ⟨hs3, hcs3⟩ := WLRel.fin HNDS.out HN.out HC.out HST.out HCS.out
     have HH3 := Li (HHS.out.step hs3 l1 l2 l3)
     have HST3 := Li (HST2.out.trans hs3)
     have HCS3 := Li hcs3
     have hn := HN'.out
     clear HNDS HN HC HST HCS hs3 hcs3 HHS HH2 HST2 HN'
     cases hch
     cases hn
     have CE := Li (clo_nil lo hi eb nb sb fb _ _ _ _ wr HCS3.out (by omega))
     clear HH3
     go_wp2_with fail
     refine CE.out.mono ?_
     rintro x9 w9 ⟨rfl, hs9, u9, hcs9⟩
     have HST9 := Li (HST3.out.trans hs9)
     have HCS9 := Li hcs9
     clear CE hs9 hcs9 HST3 HCS3
     go_wp2_with fail
     first
       | go_end0
       | refine bodyPost_ret (results_none rfl _ _ _) rfl ?_
     exact ⟨rfl, HST9.out, u9, HCS9.out.cast (by simp [List.append_assoc]) (by omega) (by omega)⟩
set_option maxHeartbeats 6400000 in
theorem walk_IfClause {G : Nat → Option Obj} {lo hi eb nb sb fb : Nat} (c : Nat) (IH : ∀ v nn c', c' ≤ c → Nd G v nn c' → WkC G lo hi eb nb sb fb v nn c') (b : Nat) (L : List Value) (hG : G b = some (.cells L.toArray 145 (0, 0))) (ch : List Value) (hch : Ch G L [(4, .x)] ch) (nn : List ByteArray) (hn : Nds G ch nn c) : WkC G lo hi eb nb sb fb (.iface 143 (.pointer (some ⟨b, 0, none⟩))) nn (c + 1) := by
 intro W ns n e u hh hcs hq1 hq2
 obtain ⟨l1, l2, l3, l4⟩ := hcs.hl
 have HL := Li hcs.hl
 have CLO := Li (clo_node lo hi eb nb sb fb ns n e u 143 b (by decide) W hcs (by omega))
 have HH0 := Li hh
 have HI := Li IH
 clear hh hcs IH
 have taFile := taN 143 49 89 b
 have taExprStmt := taN 143 91 95 b
 have taBranchStmt := taN 143 96 183 b
 have taIfStmt := taN 143 97 99 b
 have taAssignStmt := taN 143 100 104 b
 have taDefStmt := taN 143 105 108 b
 have taForStmt := taN 143 109 111 b
 have taWhileStmt := taN 143 112 114 b
 have taReturnStmt := taN 143 115 117 b
 have taLoadStmt := taN 143 118 121 b
 have taIdent := taN 143 56 65 b
 have taLiteral := taN 143 119 190 b
 have taListExpr := taN 143 122 124 b
 have taParenExpr := taN 143 125 127 b
 have taCondExpr := taN 143 128 130 b
 have taIndexExpr := taN 143 131 133 b
 have taDictEntry := taN 143 134 136 b
 have taSliceExpr := taN 143 137 139 b
 have taComprehension := taN 143 140 142 b
 have taIfClause := taY 143 145 b
 go_enter Tryz.func17, Tryz.ntmps17
 go_wp2_with fail
 refine CLO.out.mono ?_
 rintro x0 w1 ⟨rfl, hs1, u1, hcs1⟩
 have HH1 := Li (HH0.out.step hs1 l1 l2 l3)
 have HST1 := Li hs1
 have HCS1 := Li hcs1
 clear CLO HH0 hs1 hcs1
 cases hch with
 | x _ v0 _ ch0 h0 hch =>
 cases hn with
 | cons _ _ a0 r0 d0 s0 hd0 hn =>
 have z0 := (HH1.out.blk hG).at h0
 have C0 := Li (HI.out v0 a0 d0 (by omega) hd0 w1 _ _ _ _ HH1.out HCS1.out (by omega) (by omega))
 go_wp2_with fail
 refine C0.out.mono ?_
 rintro x2 w2 ⟨rfl, hs2, u2, hcs2⟩
 have HH2 := Li (HH1.out.step hs2 l1 l2 l3)
 have HST2 := Li (HST1.out.trans hs2)
 have HCS2 := Li hcs2
 clear C0 hs2 hcs2 HH1 HST1 HCS1
 cases hch
 cases hn
 have CE := Li (clo_nil lo hi eb nb sb fb _ _ _ _ w2 HCS2.out (by omega))
 clear HH2
 go_wp2_with fail
 refine CE.out.mono ?_
 rintro x9 w9 ⟨rfl, hs9, u9, hcs9⟩
 have HST9 := Li (HST2.out.trans hs9)
 have HCS9 := Li hcs9
 clear CE hs9 hcs9 HST2 HCS2
 go_wp2_with fail
 first
   | go_end0
   | refine bodyPost_ret (results_none rfl _ _ _) rfl ?_
 exact ⟨rfl, HST9.out, u9, HCS9.out.cast (by simp [List.append_assoc]) (by omega) (by omega)⟩
set_option maxHeartbeats 6400000 in
theorem walk_ForClause {G : Nat → Option Obj} {lo hi eb nb sb fb : Nat} (c : Nat) (IH : ∀ v nn c', c' ≤ c → Nd G v nn c' → WkC G lo hi eb nb sb fb v nn c') (b : Nat) (L : List Value) (hG : G b = some (.cells L.toArray 148 (0, 0))) (ch : List Value) (hch : Ch G L [(4, .x), (8, .x)] ch) (nn : List ByteArray) (hn : Nds G ch nn c) : WkC G lo hi eb nb sb fb (.iface 146 (.pointer (some ⟨b, 0, none⟩))) nn (c + 1) := by
 intro W ns n e u hh hcs hq1 hq2
 obtain ⟨l1, l2, l3, l4⟩ := hcs.hl
 have HL := Li hcs.hl
 have CLO := Li (clo_node lo hi eb nb sb fb ns n e u 146 b (by decide) W hcs (by omega))
 have HH0 := Li hh
 have HI := Li IH
 clear hh hcs IH
 have taFile := taN 146 49 89 b
 have taExprStmt := taN 146 91 95 b
 have taBranchStmt := taN 146 96 183 b
 have taIfStmt := taN 146 97 99 b
 have taAssignStmt := taN 146 100 104 b
 have taDefStmt := taN 146 105 108 b
 have taForStmt := taN 146 109 111 b
 have taWhileStmt := taN 146 112 114 b
 have taReturnStmt := taN 146 115 117 b
 have taLoadStmt := taN 146 118 121 b
 have taIdent := taN 146 56 65 b
 have taLiteral := taN 146 119 190 b
 have taListExpr := taN 146 122 124 b
 have taParenExpr := taN 146 125 127 b
 have taCondExpr := taN 146 128 130 b
 have taIndexExpr := taN 146 131 133 b
 have taDictEntry := taN 146 134 136 b
 have taSliceExpr := taN 146 137 139 b
 have taComprehension := taN 146 140 142 b
 have taIfClause := taN 146 143 145 b
 have taForClause := taY 146 148 b
 go_enter Tryz.func17, Tryz.ntmps17
 go_wp2_with fail
 refine CLO.out.mono ?_
 rintro x0 w1 ⟨rfl, hs1, u1, hcs1⟩
 have HH1 := Li (HH0.out.step hs1 l1 l2 l3)
 have HST1 := Li hs1
 have HCS1 := Li hcs1
 clear CLO HH0 hs1 hcs1
 cases hch with
 | x _ v0 _ ch0 h0 hch =>
 cases hn with
 | cons _ _ a0 r0 d0 s0 hd0 hn =>
 have z0 := (HH1.out.blk hG).at h0
 have C0 := Li (HI.out v0 a0 d0 (by omega) hd0 w1 _ _ _ _ HH1.out HCS1.out (by omega) (by omega))
 go_wp2_with fail
 refine C0.out.mono ?_
 rintro x2 w2 ⟨rfl, hs2, u2, hcs2⟩
 have HH2 := Li (HH1.out.step hs2 l1 l2 l3)
 have HST2 := Li (HST1.out.trans hs2)
 have HCS2 := Li hcs2
 clear C0 hs2 hcs2 HH1 HST1 HCS1
 cases hch with
 | x _ v1 _ ch1 h1 hch =>
 cases hn with
 | cons _ _ a1 r1 d1 s1 hd1 hn =>
 have z1 := (HH2.out.blk hG).at h1
 have C1 := Li (HI.out v1 a1 d1 (by omega) hd1 w2 _ _ _ _ HH2.out HCS2.out (by omega) (by omega))
 go_wp2_with fail
 refine C1.out.mono ?_
 rintro x3 w3 ⟨rfl, hs3, u3, hcs3⟩
 have HH3 := Li (HH2.out.step hs3 l1 l2 l3)
 have HST3 := Li (HST2.out.trans hs3)
 have HCS3 := Li hcs3
 clear C1 hs3 hcs3 HH2 HST2 HCS2
 cases hch
 cases hn
 have CE := Li (clo_nil lo hi eb nb sb fb _ _ _ _ w3 HCS3.out (by omega))
 clear HH3
 go_wp2_with fail
 refine CE.out.mono ?_
 rintro x9 w9 ⟨rfl, hs9, u9, hcs9⟩
 have HST9 := Li (HST3.out.trans hs9)
 have HCS9 := Li hcs9
 clear CE hs9 hcs9 HST3 HCS3
 go_wp2_with fail
 first
   | go_end0
   | refine bodyPost_ret (results_none rfl _ _ _) rfl ?_
 exact ⟨rfl, HST9.out, u9, HCS9.out.cast (by simp [List.append_assoc]) (by omega) (by omega)⟩
set_option maxHeartbeats 6400000 in
theorem walk_TupleExpr {G : Nat → Option Obj} {lo hi eb nb sb fb : Nat} (c : Nat) (IH : ∀ v nn c', c' ≤ c → Nd G v nn c' → WkC G lo hi eb nb sb fb v nn c') (b : Nat) (L : List Value) (hG : G b = some (.cells L.toArray 151 (0, 0))) (ch : List Value) (hch : Ch G L [(4, .s)] ch) (nn : List ByteArray) (hn : Nds G ch nn c) : WkC G lo hi eb nb sb fb (.iface 149 (.pointer (some ⟨b, 0, none⟩))) nn (c + 1) := by
 intro W ns n e u hh hcs hq1 hq2
 obtain ⟨l1, l2, l3, l4⟩ := hcs.hl
 have HL := Li hcs.hl
 have CLO := Li (clo_node lo hi eb nb sb fb ns n e u 149 b (by decide) W hcs (by omega))
 have HH0 := Li hh
 have HI := Li IH
 clear hh hcs IH
 have taFile := taN 149 49 89 b
 have taExprStmt := taN 149 91 95 b
 have taBranchStmt := taN 149 96 183 b
 have taIfStmt := taN 149 97 99 b
 have taAssignStmt := taN 149 100 104 b
 have taDefStmt := taN 149 105 108 b
 have taForStmt := taN 149 109 111 b
 have taWhileStmt := taN 149 112 114 b
 have taReturnStmt := taN 149 115 117 b
 have taLoadStmt := taN 149 118 121 b
 have taIdent := taN 149 56 65 b
 have taLiteral := taN 149 119 190 b
 have taListExpr := taN 149 122 124 b
 have taParenExpr := taN 149 125 127 b
 have taCondExpr := taN 149 128 130 b
 have taIndexExpr := taN 149 131 133 b
 have taDictEntry := taN 149 134 136 b
 have taSliceExpr := taN 149 137 139 b
 have taComprehension := taN 149 140 142 b
 have taIfClause := taN 149 143 145 b
 have taForClause := taN 149 146 148 b
 have taTupleExpr := taY 149 151 b
 go_enter Tryz.func17, Tryz.ntmps17
 go_wp2_with fail
 refine CLO.out.mono ?_
 rintro x0 w1 ⟨rfl, hs1, u1, hcs1⟩
 have HH1 := Li (HH0.out.step hs1 l1 l2 l3)
 have HST1 := Li hs1
 have HCS1 := Li hcs1
 clear CLO HH0 hs1 hcs1
 cases hch with
 | s _ v0 vs0 _ ch0 h0 hr0 hch =>
 obtain ⟨a0, r0, d0, s0, hd0, hn', rfl, rfl⟩ := Nds.split hn
 clear hn
 obtain ⟨la, lc, rfl, hlc, hlm, hrow⟩ := hr0.row
 unfold maxLen at hlm
 have z0 := (HH1.out.blk hG).at h0
 have HN' := Li hn'
 have START : Hid (WLRel G lo hi eb nb sb fb (ns) (n + 1) (e) a0 d0 vs0 w1 (.int .i64 0) w1) := Li (WLRel.start hd0 HCS1.out)
 have HR := Li hrow
 have HHS := HH1
 clear hr0 hrow hn' HCS1
 go_wp2_with fail
 go_loopw [412] (WLRel G lo hi eb nb sb fb (ns) (n + 1) (e) a0 d0 vs0 w1) (fun i _ => vs0.length - (intOf i).toNat)
 case atStart => exact START.out
 case round =>
   obtain ⟨k, n8, n9, c8, c9, u1, hk, rfl, HNDS, HN, HC, HST, HCS⟩ := hrel
   clear START
   by_cases hlt : k < vs0.length
   · obtain ⟨x, hx⟩ : ∃ x, vs0[k]? = some x := ⟨_, List.getElem?_eq_getElem hlt⟩
     obtain ⟨rb, rfl, hcell⟩ := HR.out (by intro h; rw [h] at hlt; simp at hlt)
     obtain ⟨m8, m9, d8, d9, hnd, hrest, hn9, hc9⟩ := WLRel.next hx HNDS.out
     obtain ⟨q1, q2, q3, _⟩ := HL.out
     have hhr := HHS.out.step HST.out q1 q2 q3
     have x0 := hcell _ _ _ hhr k x hx
     have CX := Li (HI.out x m8 d8 (by have := HC.out; omega) hnd wr _ _ _ _ hhr HCS.out (by have := HC.out; omega) (by have := HC.out; omega))
     have ST : Hid (∀ w8 u8, WStp hi eb nb sb wr w8 → CS lo hi eb nb sb fb ((ns) ++ n8 ++ m8) ((n + 1) + c8 + d8) ((e) + c8 + d8) u8 w8 → WLRel G lo hi eb nb sb fb (ns) (n + 1) (e) a0 d0 vs0 w1 (.int .i64 ((k : Int) + 1)) w8) := Li (fun w8 u8 h1 h2 => WLRel.step hlt hn9 HN.out (by have := HC.out; omega) HST.out hrest h1 h2)
     clear hx hcell hnd hrest hn9 hc9 hhr HNDS HN HC HST HCS
     go_wp2_with fail
     refine CX.out.mono ?_
     rintro x8 w8 ⟨rfl, hs8, u8, hcs8⟩
     have FS := Li (ST.out w8 u8 hs8 hcs8)
     clear CX ST hs8 hcs8
     go_wp2_with fail
     go_roundw
     case rel => first | exact FS.out | ((repeat apply Exists.intro); exact ⟨FS.out, rfl⟩)
     case measure => simp [intOf]; omega
   · obtain rfl : k = vs0.length := by omega
     obtain ⟨hs2, hcs2⟩ := WLRel.fin HNDS.out HN.out HC.out HST.out HCS.out
     have HH2 := Li (HHS.out.step hs2 l1 l2 l3)
     have HST2 := Li (HST1.out.trans hs2)
     have HCS2 := Li hcs2
     have hn := HN'.out
     clear HNDS HN HC HST HCS hs2 hcs2 HHS HH1 HST1 HN'
     cases hch
     cases hn
     have CE := Li (clo_nil lo hi eb nb sb fb _ _ _ _ wr HCS2.out (by omega))
     clear HH2
     go_wp2_with fail
     refine CE.out.mono ?_
     rintro x9 w9 ⟨rfl, hs9, u9, hcs9⟩
     have HST9 := Li (HST2.out.trans hs9)
     have HCS9 := Li hcs9
     clear CE hs9 hcs9 HST2 HCS2
     go_wp2_with fail
     first
       | go_end0
       | refine bodyPost_ret (results_none rfl _ _ _) rfl ?_
     exact ⟨rfl, HST9.out, u9, HCS9.out.cast (by simp [List.append_assoc]) (by omega) (by omega)⟩
set_option maxHeartbeats 6400000 in
theorem walk_DictExpr {G : Nat → Option Obj} {lo hi eb nb sb fb : Nat} (c : Nat) (IH : ∀ v nn c', c' ≤ c → Nd G v nn c' → WkC G lo hi eb nb sb fb v nn c') (b : Nat) (L : List Value) (hG : G b = some (.cells L.toArray 154 (0, 0))) (ch : List Value) (hch : Ch G L [(4, .s)] ch) (nn : List ByteArray) (hn : Nds G ch nn c) : WkC G lo hi eb nb sb fb (.iface 152 (.pointer (some ⟨b, 0, none⟩))) nn (c + 1) := by
 intro W ns n e u hh hcs hq1 hq2
 obtain ⟨l1, l2, l3, l4⟩ := hcs.hl
 have HL := Li hcs.hl
 have CLO := Li (clo_node lo hi eb nb sb fb ns n e u 152 b (by decide) W hcs (by omega))
 have HH0 := Li hh
 have HI := Li IH
 clear hh hcs IH
 have taFile := taN 152 49 89 b
 have taExprStmt := taN 152 91 95 b
 have taBranchStmt := taN 152 96 183 b
 have taIfStmt := taN 152 97 99 b
 have taAssignStmt := taN 152 100 104 b
 have taDefStmt := taN 152 105 108 b
 have taForStmt := taN 152 109 111 b
 have taWhileStmt := taN 152 112 114 b
 have taReturnStmt := taN 152 115 117 b
 have taLoadStmt := taN 152 118 121 b
 have taIdent := taN 152 56 65 b
 have taLiteral := taN 152 119 190 b
 have taListExpr := taN 152 122 124 b
 have taParenExpr := taN 152 125 127 b
 have taCondExpr := taN 152 128 130 b
 have taIndexExpr := taN 152 131 133 b
 have taDictEntry := taN 152 134 136 b
 have taSliceExpr := taN 152 137 139 b
 have taComprehension := taN 152 140 142 b
 have taIfClause := taN 152 143 145 b
 have taForClause := taN 152 146 148 b
 have taTupleExpr := taN 152 149 151 b
 have taDictExpr := taY 152 154 b
 go_enter Tryz.func17, Tryz.ntmps17
 go_wp2_with fail
 refine CLO.out.mono ?_
 rintro x0 w1 ⟨rfl, hs1, u1, hcs1⟩
 have HH1 := Li (HH0.out.step hs1 l1 l2 l3)
 have HST1 := Li hs1
 have HCS1 := Li hcs1
 clear CLO HH0 hs1 hcs1
 cases hch with
 | s _ v0 vs0 _ ch0 h0 hr0 hch =>
 obtain ⟨a0, r0, d0, s0, hd0, hn', rfl, rfl⟩ := Nds.split hn
 clear hn
 obtain ⟨la, lc, rfl, hlc, hlm, hrow⟩ := hr0.row
 unfold maxLen at hlm
 have z0 := (HH1.out.blk hG).at h0
 have HN' := Li hn'
 have START : Hid (WLRel G lo hi eb nb sb fb (ns) (n + 1) (e) a0 d0 vs0 w1 (.int .i64 0) w1) := Li (WLRel.start hd0 HCS1.out)
 have HR := Li hrow
 have HHS := HH1
 clear hr0 hrow hn' HCS1
 go_wp2_with fail
 go_loopw [428] (WLRel G lo hi eb nb sb fb (ns) (n + 1) (e) a0 d0 vs0 w1) (fun i _ => vs0.length - (intOf i).toNat)
 case atStart => exact START.out
 case round =>
   obtain ⟨k, n8, n9, c8, c9, u1, hk, rfl, HNDS, HN, HC, HST, HCS⟩ := hrel
   clear START
   by_cases hlt : k < vs0.length
   · obtain ⟨x, hx⟩ : ∃ x, vs0[k]? = some x := ⟨_, List.getElem?_eq_getElem hlt⟩
     obtain ⟨rb, rfl, hcell⟩ := HR.out (by intro h; rw [h] at hlt; simp at hlt)
     obtain ⟨m8, m9, d8, d9, hnd, hrest, hn9, hc9⟩ := WLRel.next hx HNDS.out
     obtain ⟨q1, q2, q3, _⟩ := HL.out
     have hhr := HHS.out.step HST.out q1 q2 q3
     have x0 := hcell _ _ _ hhr k x hx
     have CX := Li (HI.out x m8 d8 (by have := HC.out; omega) hnd wr _ _ _ _ hhr HCS.out (by have := HC.out; omega) (by have := HC.out; omega))
     have ST : Hid (∀ w8 u8, WStp hi eb nb sb wr w8 → CS lo hi eb nb sb fb ((ns) ++ n8 ++ m8) ((n + 1) + c8 + d8) ((e) + c8 + d8) u8 w8 → WLRel G lo hi eb nb sb fb (ns) (n + 1) (e) a0 d0 vs0 w1 (.int .i64 ((k : Int) + 1)) w8) := Li (fun w8 u8 h1 h2 => WLRel.step hlt hn9 HN.out (by have := HC.out; omega) HST.out hrest h1 h2)
     clear hx hcell hnd hrest hn9 hc9 hhr HNDS HN HC HST HCS
     go_wp2_with fail
     refine CX.out.mono ?_
     rintro x8 w8 ⟨rfl, hs8, u8, hcs8⟩
     have FS := Li (ST.out w8 u8 hs8 hcs8)
     clear CX ST hs8 hcs8
     go_wp2_with fail
     go_roundw
     case rel => first | exact FS.out | ((repeat apply Exists.intro); exact ⟨FS.out, rfl⟩)
     case measure => simp [intOf]; omega
   · obtain rfl : k = vs0.length := by omega
     obtain ⟨hs2, hcs2⟩ := WLRel.fin HNDS.out HN.out HC.out HST.out HCS.out
     have HH2 := Li (HHS.out.step hs2 l1 l2 l3)
     have HST2 := Li (HST1.out.trans hs2)
     have HCS2 := Li hcs2
     have hn := HN'.out
     clear HNDS HN HC HST HCS hs2 hcs2 HHS HH1 HST1 HN'
     cases hch
     cases hn
     have CE := Li (clo_nil lo hi eb nb sb fb _ _ _ _ wr HCS2.out (by omega))
     clear HH2
     go_wp2_with fail
     refine CE.out.mono ?_
     rintro x9 w9 ⟨rfl, hs9, u9, hcs9⟩
     have HST9 := Li (HST2.out.trans hs9)
     have HCS9 := Li hcs9
     clear CE hs9 hcs9 HST2 HCS2
     go_wp2_with fail
     first
       | go_end0
       | refine bodyPost_ret (results_none rfl _ _ _) rfl ?_
     exact ⟨rfl, HST9.out, u9, HCS9.out.cast (by simp [List.append_assoc]) (by omega) (by omega)⟩
set_option maxHeartbeats 6400000 in
theorem walk_UnaryExpr {G : Nat → Option Obj} {lo hi eb nb sb fb : Nat} (c : Nat) (IH : ∀ v nn c', c' ≤ c → Nd G v nn c' → WkC G lo hi eb nb sb fb v nn c') (b : Nat) (L : List Value) (hG : G b = some (.cells L.toArray 157 (0, 0))) (ch : List Value) (hch : Ch G L [(5, .o)] ch) (nn : List ByteArray) (hn : Nds G ch nn c) : WkC G lo hi eb nb sb fb (.iface 155 (.pointer (some ⟨b, 0, none⟩))) nn (c + 1) := by
 intro W ns n e u hh hcs hq1 hq2
 obtain ⟨l1, l2, l3, l4⟩ := hcs.hl
 have HL := Li hcs.hl
 have CLO := Li (clo_node lo hi eb nb sb fb ns n e u 155 b (by decide) W hcs (by omega))
 have HH0 := Li hh
 have HI := Li IH
 clear hh hcs IH
 have taFile := taN 155 49 89 b
 have taExprStmt := taN 155 91 95 b
 have taBranchStmt := taN 155 96 183 b
 have taIfStmt := taN 155 97 99 b
 have taAssignStmt := taN 155 100 104 b
 have taDefStmt := taN 155 105 108 b
 have taForStmt := taN 155 109 111 b
 have taWhileStmt := taN 155 112 114 b
 have taReturnStmt := taN 155 115 117 b
 have taLoadStmt := taN 155 118 121 b
 have taIdent := taN 155 56 65 b
 have taLiteral := taN 155 119 190 b
 have taListExpr := taN 155 122 124 b
 have taParenExpr := taN 155 125 127 b
 have taCondExpr := taN 155 128 130 b
 have taIndexExpr := taN 155 131 133 b
 have taDictEntry := taN 155 134 136 b
 have taSliceExpr := taN 155 137 139 b
 have taComprehension := taN 155 140 142 b
 have taIfClause := taN 155 143 145 b
 have taForClause := taN 155 146 148 b
 have taTupleExpr := taN 155 149 151 b
 have taDictExpr := taN 155 152 154 b
 have taUnaryExpr := taY 155 157 b
 go_enter Tryz.func17, Tryz.ntmps17
 go_wp2_with fail
 refine CLO.out.mono ?_
 rintro x0 w1 ⟨rfl, hs1, u1, hcs1⟩
 have HH1 := Li (HH0.out.step hs1 l1 l2 l3)
 have HST1 := Li hs1
 have HCS1 := Li hcs1
 clear CLO HH0 hs1 hcs1
 cases hch with
 | none _ _ ch0 h0 hch =>
   have z0 := (HH1.out.blk hG).at h0
   cases hch
   cases hn
   have CE := Li (clo_nil lo hi eb nb sb fb _ _ _ _ w1 HCS1.out (by omega))
   clear HH1
   go_wp2_with fail
   refine CE.out.mono ?_
   rintro x9 w9 ⟨rfl, hs9, u9, hcs9⟩
   have HST9 := Li (HST1.out.trans hs9)
   have HCS9 := Li hcs9
   clear CE hs9 hcs9 HST1 HCS1
   go_wp2_with fail
   first
     | go_end0
     | refine bodyPost_ret (results_none rfl _ _ _) rfl ?_
   exact ⟨rfl, HST9.out, u9, HCS9.out.cast (by simp [List.append_assoc]) (by omega) (by omega)⟩
 | some _ v0 _ ch0 h0 hch =>
   cases hn with
   | cons _ _ a0 r0 d0 s0 hd0 hn =>
   obtain ⟨T0, o0, rfl⟩ := hd0.form
   have z0 := (HH1.out.blk hG).at h0
   have C0 := Li (HI.out _ a0 d0 (by omega) hd0 w1 _ _ _ _ HH1.out HCS1.out (by omega) (by omega))
   go_wp2_with fail
   refine C0.out.mono ?_
   rintro x2 w2 ⟨rfl, hs2, u2, hcs2⟩
   have HH2 := Li (HH1.out.step hs2 l1 l2 l3)
   have y0 := (HH2.out.blk hG).at h0
   have HST2 := Li (HST1.out.trans hs2)
   have HCS2 := Li hcs2
   clear C0 hs2 hcs2 HH1 HST1 HCS1
   cases hch
   cases hn
   have CE := Li (clo_nil lo hi eb nb sb fb _ _ _ _ w2 HCS2.out (by omega))
   clear HH2
   go_wp2_with fail
   refine CE.out.mono ?_
   rintro x9 w9 ⟨rfl, hs9, u9, hcs9⟩
   have HST9 := Li (HST2.out.trans hs9)
   have HCS9 := Li hcs9
   clear CE hs9 hcs9 HST2 HCS2
   go_wp2_with fail
   first
     | go_end0
     | refine bodyPost_ret (results_none rfl _ _ _) rfl ?_
   exact ⟨rfl, HST9.out, u9, HCS9.out.cast (by simp [List.append_assoc]) (by omega) (by omega)⟩
set_option maxHeartbeats 6400000 in
theorem walk_BinaryExpr {G : Nat → Option Obj} {lo hi eb nb sb fb : Nat} (c : Nat) (IH : ∀ v nn c', c' ≤ c → Nd G v nn c' → WkC G lo hi eb nb sb fb v nn c') (b : Nat) (L : List Value) (hG : G b = some (.cells L.toArray 160 (0, 0))) (ch : List Value) (hch : Ch G L [(1, .x), (6, .x)] ch) (nn : List ByteArray) (hn : Nds G ch nn c) : WkC G lo hi eb nb sb fb (.iface 158 (.pointer (some ⟨b, 0, none⟩))) nn (c + 1) := by
 intro W ns n e u hh hcs hq1 hq2
 obtain ⟨l1, l2, l3, l4⟩ := hcs.hl
 have HL := Li hcs.hl
 have CLO := Li (clo_node lo hi eb nb sb fb ns n e u 158 b (by decide) W hcs (by omega))
 have HH0 := Li hh
 have HI := Li IH
 clear hh hcs IH
 have taFile := taN 158 49 89 b
 have taExprStmt := taN 158 91 95 b
 have taBranchStmt := taN 158 96 183 b
 have taIfStmt := taN 158 97 99 b
 have taAssignStmt := taN 158 100 104 b
 have taDefStmt := taN 158 105 108 b
 have taForStmt := taN 158 109 111 b
 have taWhileStmt := taN 158 112 114 b
 have taReturnStmt := taN 158 115 117 b
 have taLoadStmt := taN 158 118 121 b
 have taIdent := taN 158 56 65 b
 have taLiteral := taN 158 119 190 b
 have taListExpr := taN 158 122 124 b
 have taParenExpr := taN 158 125 127 b
 have taCondExpr := taN 158 128 130 b
 have taIndexExpr := taN 158 131 133 b
 have taDictEntry := taN 158 134 136 b
 have taSliceExpr := taN 158 137 139 b
 have taComprehension := taN 158 140 142 b
 have taIfClause := taN 158 143 145 b
 have taForClause := taN 158 146 148 b
 have taTupleExpr := taN 158 149 151 b
 have taDictExpr := taN 158 152 154 b
 have taUnaryExpr := taN 158 155 157 b
 have taBinaryExpr := taY 158 160 b
 go_enter Tryz.func17, Tryz.ntmps17
 go_wp2_with fail
 refine CLO.out.mono ?_
 rintro x0 w1 ⟨rfl, hs1, u1, hcs1⟩
 have HH1 := Li (HH0.out.step hs1 l1 l2 l3)
 have HST1 := Li hs1
 have HCS1 := Li hcs1
 clear CLO HH0 hs1 hcs1
 cases hch with
 | x _ v0 _ ch0 h0 hch =>
 cases hn with
 | cons _ _ a0 r0 d0 s0 hd0 hn =>
 have z0 := (HH1.out.blk hG).at h0
 have C0 := Li (HI.out v0 a0 d0 (by omega) hd0 w1 _ _ _ _ HH1.out HCS1.out (by omega) (by omega))
 go_wp2_with fail
 refine C0.out.mono ?_
 rintro x2 w2 ⟨rfl, hs2, u2, hcs2⟩
 have HH2 := Li (HH1.out.step hs2 l1 l2 l3)
 have HST2 := Li (HST1.out.trans hs2)
 have HCS2 := Li hcs2
 clear C0 hs2 hcs2 HH1 HST1 HCS1
 cases hch with
 | x _ v1 _ ch1 h1 hch =>
 cases hn with
 | cons _ _ a1 r1 d1 s1 hd1 hn =>
 have z1 := (HH2.out.blk hG).at h1
 have C1 := Li (HI.out v1 a1 d1 (by omega) hd1 w2 _ _ _ _ HH2.out HCS2.out (by omega) (by omega))
 go_wp2_with fail
 refine C1.out.mono ?_
 rintro x3 w3 ⟨rfl, hs3, u3, hcs3⟩
 have HH3 := Li (HH2.out.step hs3 l1 l2 l3)
 have HST3 := Li (HST2.out.trans hs3)
 have HCS3 := Li hcs3
 clear C1 hs3 hcs3 HH2 HST2 HCS2
 cases hch
 cases hn
 have CE := Li (clo_nil lo hi eb nb sb fb _ _ _ _ w3 HCS3.out (by omega))
 clear HH3
 go_wp2_with fail
 refine CE.out.mono ?_
 rintro x9 w9 ⟨rfl, hs9, u9, hcs9⟩
 have HST9 := Li (HST3.out.trans hs9)
 have HCS9 := Li hcs9
 clear CE hs9 hcs9 HST3 HCS3
 go_wp2_with fail
 first
   | go_end0
   | refine bodyPost_ret (results_none rfl _ _ _) rfl ?_
 exact ⟨rfl, HST9.out, u9, HCS9.out.cast (by simp [List.append_assoc]) (by omega) (by omega)⟩
set_option maxHeartbeats 6400000 in
theorem walk_DotExpr {G : Nat → Option Obj} {lo hi eb nb sb fb : Nat} (c : Nat) (IH : ∀ v nn c', c' ≤ c → Nd G v nn c' → WkC G lo hi eb nb sb fb v nn c') (b : Nat) (L : List Value) (hG : G b = some (.cells L.toArray 163 (0, 0))) (ch : List Value) (hch : Ch G L [(1, .x), (8, .n)] ch) (nn : List ByteArray) (hn : Nds G ch nn c) : WkC G lo hi eb nb sb fb (.iface 161 (.pointer (some ⟨b, 0, none⟩))) nn (c + 1) := by
 intro W ns n e u hh hcs hq1 hq2
 obtain ⟨l1, l2, l3, l4⟩ := hcs.hl
 have HL := Li hcs.hl
 have CLO := Li (clo_node lo hi eb nb sb fb ns n e u 161 b (by decide) W hcs (by omega))
 have HH0 := Li hh
 have HI := Li IH
 clear hh hcs IH
 have taFile := taN 161 49 89 b
 have taExprStmt := taN 161 91 95 b
 have taBranchStmt := taN 161 96 183 b
 have taIfStmt := taN 161 97 99 b
 have taAssignStmt := taN 161 100 104 b
 have taDefStmt := taN 161 105 108 b
 have taForStmt := taN 161 109 111 b
 have taWhileStmt := taN 161 112 114 b
 have taReturnStmt := taN 161 115 117 b
 have taLoadStmt := taN 161 118 121 b
 have taIdent := taN 161 56 65 b
 have taLiteral := taN 161 119 190 b
 have taListExpr := taN 161 122 124 b
 have taParenExpr := taN 161 125 127 b
 have taCondExpr := taN 161 128 130 b
 have taIndexExpr := taN 161 131 133 b
 have taDictEntry := taN 161 134 136 b
 have taSliceExpr := taN 161 137 139 b
 have taComprehension := taN 161 140 142 b
 have taIfClause := taN 161 143 145 b
 have taForClause := taN 161 146 148 b
 have taTupleExpr := taN 161 149 151 b
 have taDictExpr := taN 161 152 154 b
 have taUnaryExpr := taN 161 155 157 b
 have taBinaryExpr := taN 161 158 160 b
 have taDotExpr := taY 161 163 b
 go_enter Tryz.func17, Tryz.ntmps17
 go_wp2_with fail
 refine CLO.out.mono ?_
 rintro x0 w1 ⟨rfl, hs1, u1, hcs1⟩
 have HH1 := Li (HH0.out.step hs1 l1 l2 l3)
 have HST1 := Li hs1
 have HCS1 := Li hcs1
 clear CLO HH0 hs1 hcs1
 cases hch with
 | x _ v0 _ ch0 h0 hch =>
 cases hn with
 | cons _ _ a0 r0 d0 s0 hd0 hn =>
 have z0 := (HH1.out.blk hG).at h0
 have C0 := Li (HI.out v0 a0 d0 (by omega) hd0 w1 _ _ _ _ HH1.out HCS1.out (by omega) (by omega))
 go_wp2_with fail
 refine C0.out.mono ?_
 rintro x2 w2 ⟨rfl, hs2, u2, hcs2⟩
 have HH2 := Li (HH1.out.step hs2 l1 l2 l3)
 have HST2 := Li (HST1.out.trans hs2)
 have HCS2 := Li hcs2
 clear C0 hs2 hcs2 HH1 HST1 HCS1
 cases hch with
 | n _ p1 _ ch1 h1 hch =>
 cases hn with
 | cons _ _ a1 r1 d1 s1 hd1 hn =>
 have z1 := (HH2.out.blk hG).at h1
 have C1 := Li (HI.out (.iface 56 (.pointer p1)) a1 d1 (by omega) hd1 w2 _ _ _ _ HH2.out HCS2.out (by omega) (by omega))
 go_wp2_with fail
 refine C1.out.mono ?_
 rintro x3 w3 ⟨rfl, hs3, u3, hcs3⟩
 have HH3 := Li (HH2.out.step hs3 l1 l2 l3)
 have HST3 := Li (HST2.out.trans hs3)
 have HCS3 := Li hcs3
 clear C1 hs3 hcs3 HH2 HST2 HCS2
 cases hch
 cases hn
 have CE := Li (clo_nil lo hi eb nb sb fb _ _ _ _ w3 HCS3.out (by omega))
 clear HH3
 go_wp2_with fail
 refine CE.out.mono ?_
 rintro x9 w9 ⟨rfl, hs9, u9, hcs9⟩
 have HST9 := Li (HST3.out.trans hs9)
 have HCS9 := Li hcs9
 clear CE hs9 hcs9 HST3 HCS3
 go_wp2_with fail
 first
   | go_end0
   | refine bodyPost_ret (results_none rfl _ _ _) rfl ?_
 exact ⟨rfl, HST9.out, u9, HCS9.out.cast (by simp [List.append_assoc]) (by omega) (by omega)⟩
set_option maxHeartbeats 6400000 in
theorem walk_CallExpr {G : Nat → Option Obj} {lo hi eb nb sb fb : Nat} (c : Nat) (IH : ∀ v nn c', c' ≤ c → Nd G v nn c' → WkC G lo hi eb nb sb fb v nn c') (b : Nat) (L : List Value) (hG : G b = some (.cells L.toArray 166 (0, 0))) (ch : List Value) (hch : Ch G L [(1, .x), (5, .s)] ch) (nn : List ByteArray) (hn : Nds G ch nn c) : WkC G lo hi eb nb sb fb (.iface 164 (.pointer (some ⟨b, 0, none⟩))) nn (c + 1) := by
 intro W ns n e u hh hcs hq1 hq2
 obtain ⟨l1, l2, l3, l4⟩ := hcs.hl
 have HL := Li hcs.hl
 have CLO := Li (clo_node lo hi eb nb sb fb ns n e u 164 b (by decide) W hcs (by omega))
 have HH0 := Li hh
 have HI := Li IH
 clear hh hcs IH
 have taFile := taN 164 49 89 b
 have taExprStmt := taN 164 91 95 b
 have taBranchStmt := taN 164 96 183 b
 have taIfStmt := taN 164 97 99 b
 have taAssignStmt := taN 164 100 104 b
 have taDefStmt := taN 164 105 108 b
 have taForStmt := taN 164 109 111 b
 have taWhileStmt := taN 164 112 114 b
 have taReturnStmt := taN 164 115 117 b
 have taLoadStmt := taN 164 118 121 b
 have taIdent := taN 164 56 65 b
 have taLiteral := taN 164 119 190 b
 have taListExpr := taN 164 122 124 b
 have taParenExpr := taN 164 125 127 b
 have taCondExpr := taN 164 128 130 b
 have taIndexExpr := taN 164 131 133 b
 have taDictEntry := taN 164 134 136 b
 have taSliceExpr := taN 164 137 139 b
 have taComprehension := taN 164 140 142 b
 have taIfClause := taN 164 143 145 b
 have taForClause := taN 164 146 148 b
 have taTupleExpr := taN 164 149 151 b
 have taDictExpr := taN 164 152 154 b
 have taUnaryExpr := taN 164 155 157 b
 have taBinaryExpr := taN 164 158 160 b
 have taDotExpr := taN 164 161 163 b
 have taCallExpr := taY 164 166 b
 go_enter Tryz.func17, Tryz.ntmps17
 go_wp2_with fail
 refine CLO.out.mono ?_
 rintro x0 w1 ⟨rfl, hs1, u1, hcs1⟩
 have HH1 := Li (HH0.out.step hs1 l1 l2 l3)
 have HST1 := Li hs1
 have HCS1 := Li hcs1
 clear CLO HH0 hs1 hcs1
 cases hch with
 | x _ v0 _ ch0 h0 hch =>
 cases hn with
 | cons _ _ a0 r0 d0 s0 hd0 hn =>
 have z0 := (HH1.out.blk hG).at h0
 have C0 := Li (HI.out v0 a0 d0 (by omega) hd0 w1 _ _ _ _ HH1.out HCS1.out (by omega) (by omega))
 go_wp2_with fail
 refine C0.out.mono ?_
 rintro x2 w2 ⟨rfl, hs2, u2, hcs2⟩
 have HH2 := Li (HH1.out.step hs2 l1 l2 l3)
 have HST2 := Li (HST1.out.trans hs2)
 have HCS2 := Li hcs2
 clear C0 hs2 hcs2 HH1 HST1 HCS1
 cases hch with
 | s _ v1 vs1 _ ch1 h1 hr1 hch =>
 obtain ⟨a1, r1, d1, s1, hd1, hn', rfl, rfl⟩ := Nds.split hn
 clear hn
 obtain ⟨la, lc, rfl, hlc, hlm, hrow⟩ := hr1.row
 unfold maxLen at hlm
 have z1 := (HH2.out.blk hG).at h1
 have HN' := Li hn'
 have START : Hid (WLRel G lo hi eb nb sb fb (ns ++ a0) (n + 1 + d0) (e + d0) a1 d1 vs1 w2 (.int .i64 0) w2) := Li (WLRel.start hd1 HCS2.out)
 have HR := Li hrow
 have HHS := HH2
 clear hr1 hrow hn' HCS2
 go_wp2_with fail
 go_loopw [495] (WLRel G lo hi eb nb sb fb (ns ++ a0) (n + 1 + d0) (e + d0) a1 d1 vs1 w2) (fun i _ => vs1.length - (intOf i).toNat)
 case atStart => exact START.out
 case round =>
   obtain ⟨k, n8, n9, c8, c9, u1, hk, rfl, HNDS, HN, HC, HST, HCS⟩ := hrel
   clear START
   by_cases hlt : k < vs1.length
   · obtain ⟨x, hx⟩ : ∃ x, vs1[k]? = some x := ⟨_, List.getElem?_eq_getElem hlt⟩
     obtain ⟨rb, rfl, hcell⟩ := HR.out (by intro h; rw [h] at hlt; simp at hlt)
     obtain ⟨m8, m9, d8, d9, hnd, hrest, hn9, hc9⟩ := WLRel.next hx HNDS.out
     obtain ⟨q1, q2, q3, _⟩ := HL.out
     have hhr := HHS.out.step HST.out q1 q2 q3
     have x0 := hcell _ _ _ hhr k x hx
     have CX := Li (HI.out x m8 d8 (by have := HC.out; omega) hnd wr _ _ _ _ hhr HCS.out (by have := HC.out; omega) (by have := HC.out; omega))
     have ST : Hid (∀ w8 u8, WStp hi eb nb sb wr w8 → CS lo hi eb nb sb fb ((ns ++ a0) ++ n8 ++ m8) ((n + 1 + d0) + c8 + d8) ((e + d0) + c8 + d8) u8 w8 → WLRel G lo hi eb nb sb fb (ns ++ a0) (n + 1 + d0) (e + d0) a1 d1 vs1 w2 (.int .i64 ((k : Int) + 1)) w8) := Li (fun w8 u8 h1 h2 => WLRel.step hlt hn9 HN.out (by have := HC.out; omega) HST.out hrest h1 h2)
     clear hx hcell hnd hrest hn9 hc9 hhr HNDS HN HC HST HCS
     go_wp2_with fail
     refine CX.out.mono ?_
     rintro x8 w8 ⟨rfl, hs8, u8, hcs8⟩
     have FS := Li (ST.out w8 u8 hs8 hcs8)
     clear CX ST hs8 hcs8
     go_wp2_with fail
     go_roundw
     case rel => first | exact FS.out | ((repeat apply Exists.intro); exact ⟨FS.out, rfl⟩)
     case measure => simp [intOf]; omega
   · obtain rfl : k = vs1.length := by omega
     obtain ⟨hs3, hcs3⟩ := WLRel.fin HNDS.out HN.out HC.out HST.out HCS.out
     have HH3 := Li (HHS.out.step hs3 l1 l2 l3)
     have HST3 := Li (HST2.out.trans hs3)
     have HCS3 := Li hcs3
     have hn := HN'.out
     clear HNDS HN HC HST HCS hs3 hcs3 HHS HH2 HST2 HN'
     cases hch
     cases hn
     have CE := Li (clo_nil lo hi eb nb sb fb _ _ _ _ wr HCS3.out (by omega))
     clear HH3
     go_wp2_with fail
     refine CE.out.mono ?_
     rintro x9 w9 ⟨rfl, hs9, u9, hcs9⟩
     have HST9 := Li (HST3.out.trans hs9)
     have HCS9 := Li hcs9
     clear CE hs9 hcs9 HST3 HCS3
     go_wp2_with fail
     first
       | go_end0
       | refine bodyPost_ret (results_none rfl _ _ _) rfl ?_
     exact ⟨rfl, HST9.out, u9, HCS9.out.cast (by simp [List.append_assoc]) (by omega) (by omega)⟩
set_option maxHeartbeats 6400000 in
theorem walk_LambdaExpr {G : Nat → Option Obj} {lo hi eb nb sb fb : Nat} (c : Nat) (IH : ∀ v nn c', c' ≤ c → Nd G v nn c' → WkC G lo hi eb nb sb fb v nn c') (b : Nat) (L : List Value) (hG : G b = some (.cells L.toArray 169 (0, 0))) (ch : List Value) (hch : Ch G L [(4, .s), (5, .x)] ch) (nn : List ByteArray) (hn : Nds G ch nn c) : WkC G lo hi eb nb sb fb (.iface 167 (.pointer (some ⟨b, 0, none⟩))) nn (c + 1) := by
 intro W ns n e u hh hcs hq1 hq2
 obtain ⟨l1, l2, l3, l4⟩ := hcs.hl
 have HL := Li hcs.hl
 have CLO := Li (clo_node lo hi eb nb sb fb ns n e u 167 b (by decide) W hcs (by omega))
 have HH0 := Li hh
 have HI := Li IH
 clear hh hcs IH
 have taFile := taN 167 49 89 b
 have taExprStmt := taN 167 91 95 b
 have taBranchStmt := taN 167 96 183 b
 have taIfStmt := taN 167 97 99 b
 have taAssignStmt := taN 167 100 104 b
 have taDefStmt := taN 167 105 108 b
 have taForStmt := taN 167 109 111 b
 have taWhileStmt := taN 167 112 114 b
 have taReturnStmt := taN 167 115 117 b
 have taLoadStmt := taN 167 118 121 b
 have taIdent := taN 167 56 65 b
 have taLiteral := taN 167 119 190 b
 have taListExpr := taN 167 122 124 b
 have taParenExpr := taN 167 125 127 b
 have taCondExpr := taN 167 128 130 b
 have taIndexExpr := taN 167 131 133 b
 have taDictEntry := taN 167 134 136 b
 have taSliceExpr := taN 167 137 139 b
 have taComprehension := taN 167 140 142 b
 have taIfClause := taN 167 143 145 b
 have taForClause := taN 167 146 148 b
 have taTupleExpr := taN 167 149 151 b
 have taDictExpr := taN 167 152 154 b
 have taUnaryExpr := taN 167 155 157 b
 have taBinaryExpr := taN 167 158 160 b
 have taDotExpr := taN 167 161 163 b
 have taCallExpr := taN 167 164 166 b
 have taLambdaExpr := taY 167 169 b
 go_enter Tryz.func17, Tryz.ntmps17
 go_wp2_with fail
 refine CLO.out.mono ?_
 rintro x0 w1 ⟨rfl, hs1, u1, hcs1⟩
 have HH1 := Li (HH0.out.step hs1 l1 l2 l3)
 have HST1 := Li hs1
 have HCS1 := Li hcs1
 clear CLO HH0 hs1 hcs1
 cases hch with
 | s _ v0 vs0 _ ch0 h0 hr0 hch =>
 obtain ⟨a0, r0, d0, s0, hd0, hn', rfl, rfl⟩ := Nds.split hn
 clear hn
 obtain ⟨la, lc, rfl, hlc, hlm, hrow⟩ := hr0.row
 unfold maxLen at hlm
 have z0 := (HH1.out.blk hG).at h0
 have HN' := Li hn'
 have START : Hid (WLRel G lo hi eb nb sb fb (ns) (n + 1) (e) a0 d0 vs0 w1 (.int .i64 0) w1) := Li (WLRel.start hd0 HCS1.out)
 have HR := Li hrow
 have HHS := HH1
 clear hr0 hrow hn' HCS1
 go_wp2_with fail
 go_loopw [511] (WLRel G lo hi eb nb sb fb (ns) (n + 1) (e) a0 d0 vs0 w1) (fun i _ => vs0.length - (intOf i).toNat)
 case atStart => exact START.out
 case round =>
   obtain ⟨k, n8, n9, c8, c9, u1, hk, rfl, HNDS, HN, HC, HST, HCS⟩ := hrel
   clear START
   by_cases hlt : k < vs0.length
   · obtain ⟨x, hx⟩ : ∃ x, vs0[k]? = some x := ⟨_, List.getElem?_eq_getElem hlt⟩
     obtain ⟨rb, rfl, hcell⟩ := HR.out (by intro h; rw [h] at hlt; simp at hlt)
     obtain ⟨m8, m9, d8, d9, hnd, hrest, hn9, hc9⟩ := WLRel.next hx HNDS.out
     obtain ⟨q1, q2, q3, _⟩ := HL.out
     have hhr := HHS.out.step HST.out q1 q2 q3
     have x0 := hcell _ _ _ hhr k x hx
     have CX := Li (HI.out x m8 d8 (by have := HC.out; omega) hnd wr _ _ _ _ hhr HCS.out (by have := HC.out; omega) (by have := HC.out; omega))
     have ST : Hid (∀ w8 u8, WStp hi eb nb sb wr w8 → CS lo hi eb nb sb fb ((ns) ++ n8 ++ m8) ((n + 1) + c8 + d8) ((e) + c8 + d8) u8 w8 → WLRel G lo hi eb nb sb fb (ns) (n + 1) (e) a0 d0 vs0 w1 (.int .i64 ((k : Int) + 1)) w8) := Li (fun w8 u8 h1 h2 => WLRel.step hlt hn9 HN.out (by have := HC.out; omega) HST.out hrest h1 h2)
     clear hx hcell hnd hrest hn9 hc9 hhr HNDS HN HC HST HCS
     go_wp2_with fail
     refine CX.out.mono ?_
     rintro x8 w8 ⟨rfl, hs8, u8, hcs8⟩
     have FS := Li (ST.out w8 u8 hs8 hcs8)
     clear CX ST hs8 hcs8
     go_wp2_with fail
     go_roundw
     case rel => first | exact FS.out | ((repeat apply Exists.intro); exact ⟨FS.out, rfl⟩)
     case measure => simp [intOf]; omega
   · obtain rfl : k = vs0.length := by omega
     obtain ⟨hs2, hcs2⟩ := WLRel.fin HNDS.out HN.out HC.out HST.out HCS.out
     have HH2 := Li (HHS.out.step hs2 l1 l2 l3)
     have HST2 := Li (HST1.out.trans hs2)
     have HCS2 := Li hcs2
     have hn := HN'.out
     clear HNDS HN HC HST HCS hs2 hcs2 HHS HH1 HST1 HN'
     cases hch with
     | x _ v1 _ ch1 h1 hch =>
     cases hn with
     | cons _ _ a1 r1 d1 s1 hd1 hn =>
     have z1 := (HH2.out.blk hG).at h1
     have C1 := Li (HI.out v1 a1 d1 (by omega) hd1 wr _ _ _ _ HH2.out HCS2.out (by omega) (by omega))
     go_wp2_with fail
     refine C1.out.mono ?_
     rintro x3 w3 ⟨rfl, hs3, u3, hcs3⟩
     have HH3 := Li (HH2.out.step hs3 l1 l2 l3)
     have HST3 := Li (HST2.out.trans hs3)
     have HCS3 := Li hcs3
     clear C1 hs3 hcs3 HH2 HST2 HCS2
     cases hch
     cases hn
     have CE := Li (clo_nil lo hi eb nb sb fb _ _ _ _ w3 HCS3.out (by omega))
     clear HH3
     go_wp2_with fail
     refine CE.out.mono ?_
     rintro x9 w9 ⟨rfl, hs9, u9, hcs9⟩
     have HST9 := Li (HST3.out.trans hs9)
     have HCS9 := Li hcs9
     clear CE hs9 hcs9 HST3 HCS3
     go_wp2_with fail
     first
       | go_end0
       | refine bodyPost_ret (results_none rfl _ _ _) rfl ?_
     exact ⟨rfl, HST9.out, u9, HCS9.out.cast (by simp [List.append_assoc]) (by omega) (by omega)⟩
end Go.Proofs.YtoojgjhfmmohbaaGreat
