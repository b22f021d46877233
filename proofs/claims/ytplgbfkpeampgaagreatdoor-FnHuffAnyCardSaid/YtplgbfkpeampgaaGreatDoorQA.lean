/- Walks (printed by a program of my own). -/
import Derived.Test.YtplgbfkpeampgaaGreatDoorQ3
import Derived.Test.YtplgbfkpeampgaaGreatDoorQ7
import Derived.Test.YtplgbfkpeampgaaGreatDoorQ9
set_option linter.unusedVariables false
set_option linter.unusedSimpArgs false
set_option maxRecDepth 100000
namespace Go.Proofs.YtplgbfkpeampgaaGreatDoor
open Go
theorem k_D1X (bi so:Nat) (shi:Shp) (xs:List Nat) (cap:Nat) (hc:xs.length≤cap) (hz:xs.length≤1152921504606846976) (hb:Bytes xs) (bt tcap:Nat) (sht:Shp) (dt:List Nat) (hdl:dt.length=2048) (htc:2048≤tcap) (L:Nat) (ls:List Nat) (hT:Tab dt L (cdL ls) (Has ls)) (be eo:Nat) (she:Shp) (dp:Value) (bd:Nat) (zs text:List Nat) (hzs:zs.length=text.length) (h48:text.length≤1073741824) (htl1:1≤text.length) (ha:∀c ∈ text,Has ls c) (hl:xs.length=tN (cdL ls) text/8+1) (hv:tailV xs 0 xs.length=2^tN (cdL ls) text+bitsV (codeBits ls text)):Con Tryz.prog 24 [Vp be eo,Vs bd 0 0 text.length,Vs bi so xs.length cap] [⟨bd,0,(nats .u8 zs),none⟩] [⟨be,eo,[Vs bt 0 2048 tcap,Va L,dp],she⟩,⟨bt,0,(nats .u16 dt),sht⟩,⟨bi,so,(nats .u8 xs),shi⟩] (fun v l'=>∃q b o cs cap,v=.tuple #[.slice q text.length cap,.nilIface]∧GS q b o cs 1 cap∧text.length≤cap∧cs.take text.length=nats .u8 text∧l'=[⟨b,o,cs,none⟩]):=by
  have h5:=RdT.ofBits (tt:=5) hT hb Om ha hl hv
  have h4:=RdT.ofBits (tt:=4) hT hb Om ha hl hv
  rcases Nat.lt_or_ge 8 L with h|h
  · exact c_D1X_hi bi so shi xs 0 xs.length cap hc Om hz hb bt 0 tcap sht dt hdl htc L _ _ hT be eo she dp bd zs text hzs htl1 h48 Om h5.2 h h5.1
  · exact c_D1X_le bi so shi xs 0 xs.length cap hc Om hz hb bt 0 tcap sht dt hdl htc L _ _ hT be eo she dp bd zs text hzs htl1 h48 Om h4.2 h h4.1
theorem k_D4X (bi so:Nat) (shi:Shp) (xs:List Nat) (cap:Nat) (hc:xs.length≤cap) (hz:xs.length≤1152921504606846976) (hb:Bytes xs) (bt tcap:Nat) (sht:Shp) (dt:List Nat) (hdl:dt.length=2048) (htc:2048≤tcap) (L:Nat) (ls:List Nat) (hT:Tab dt L (cdL ls) (Has ls)) (be eo:Nat) (she:Shp) (dp:Value) (bd:Nat) (zs text:List Nat) (hzs:zs.length=text.length) (h48:text.length≤1073741824) (ev m3 ln0 ln1 ln2 ln3:Nat) (hm3:text.length=3*ev+m3) (hm31:1≤m3∧m3≤ev∧ev≤m3+3) (hF:Four xs text ls ev m3 ln0 ln1 ln2 ln3):Con Tryz.prog 23 [Vp be eo,Vs bd 0 0 text.length,Vs bi so xs.length cap] [⟨bd,0,(nats .u8 zs),none⟩] [⟨be,eo,[Vs bt 0 2048 tcap,Va L,dp],she⟩,⟨bt,0,(nats .u16 dt),sht⟩,⟨bi,so,(nats .u8 xs),shi⟩] (fun v l'=>∃q b o cs cap,v=.tuple #[.slice q text.length cap,.nilIface]∧GS q b o cs 1 cap∧text.length≤cap∧cs.take text.length=nats .u8 text∧l'=[⟨b,o,cs,none⟩]):=by
  obtain⟨a0,b0,c0⟩:=hF.s0
  obtain⟨a1,b1,c1⟩:=hF.s1
  obtain⟨a2,b2,c2⟩:=hF.s2
  obtain⟨a3,b3,c3⟩:=hF.s3
  have e1:0+(6+ln0)=6+ln0:=Nat.zero_add _
  have e2:0+(6+ln0+ln1)=6+ln0+ln1:=Nat.zero_add _
  have e3:0+(6+ln0+ln1+ln2)=6+ln0+ln1+ln2:=Nat.zero_add _
  have h:=hF.len
  rcases Nat.lt_or_ge 8 L with hL|hL
  · have r0:=RdT.ofBits (tt:=5) (k:=0+6) hT hb Om c0 a0 b0
    have r1:=RdT.ofBits (tt:=5) (k:=0+(6+ln0)) hT hb Om c1 a1 (by rw[e1];exact b1)
    have r2:=RdT.ofBits (tt:=5) (k:=0+(6+ln0+ln1)) hT hb Om c2 a2 (by rw[e2];exact b2)
    have r3:=RdT.ofBits (tt:=5) (k:=0+(6+ln0+ln1+ln2)) hT hb Om c3 a3 (by rw[e3];exact b3)
    exact c_D4X_hi bi so shi xs 0 xs.length cap hc Om hz hb bt 0 tcap sht dt hdl htc L _ _ hT be eo she dp bd zs text hzs h48 ev m3 hm3 hm31 _ _ _ ln0 ln1 ln2 ln3 rfl rfl rfl Om hF.one hF.j0 hF.j1 hF.j2 r0.2 r1.2 r2.2 r3.2 hL r0.1 r1.1 r2.1 r3.1
  · have r0:=RdT.ofBits (tt:=4) (k:=0+6) hT hb Om c0 a0 b0
    have r1:=RdT.ofBits (tt:=4) (k:=0+(6+ln0)) hT hb Om c1 a1 (by rw[e1];exact b1)
    have r2:=RdT.ofBits (tt:=4) (k:=0+(6+ln0+ln1)) hT hb Om c2 a2 (by rw[e2];exact b2)
    have r3:=RdT.ofBits (tt:=4) (k:=0+(6+ln0+ln1+ln2)) hT hb Om c3 a3 (by rw[e3];exact b3)
    exact c_D4X_le bi so shi xs 0 xs.length cap hc Om hz hb bt 0 tcap sht dt hdl htc L _ _ hT be eo she dp bd zs text hzs h48 ev m3 hm3 hm31 _ _ _ ln0 ln1 ln2 ln3 rfl rfl rfl Om hF.one hF.j0 hF.j1 hF.j2 r0.2 r1.2 r2.2 r3.2 hL r0.1 r1.1 r2.1 r3.1
set_option maxHeartbeats 2000000 in
theorem c_HuffDecode1 (bi so:Nat) (shi:Shp) (ys:List Nat) (ci:Nat) (hci:ys.length≤ci) (hz:ys.length≤1152921504606846976) (hb:Bytes ys) (ls:List Nat) (L last:Nat) (hH:HW ls L last) (hW:WholeL ls) (hE:EvenAll ls) (hTr:TreeC ls ys L last) (bj sj:Nat) (shj:Shp) (zs:List Nat) (cj:Nat) (hcj:zs.length≤cj) (hzz:zs.length≤1152921504606846976) (hbz:Bytes zs) (text:List Nat) (h48:text.length≤1073741824) (htl1:1≤text.length) (ha:∀c ∈ text,Has ls c) (hl:zs.length=tN (cdL ls) text/8+1) (hv:tailV zs 0 zs.length=2^tN (cdL ls) text+bitsV (codeBits ls text)):Con Tryz.prog 12 [Vs bi so ys.length ci,Vs bj sj zs.length cj,.bool false,Vh text.length] [] [⟨bi,so,(nats .u8 ys),shi⟩,⟨bj,sj,(nats .u8 zs),shj⟩] (fun v l'=>∃q b o cs cap,v=.tuple #[.slice q text.length cap,.bool true]∧GS q b o cs 1 cap∧text.length≤cap∧cs.take text.length=nats .u8 text∧l'=[⟨b,o,cs,none⟩]):=by
 refine Zi Tryz.func12 rfl fun w0=>?_
 refine Y5 ?_
 refine Y2 ?_
 refine Zcp [] [0] (c_ReadTable bi so shi ys 0 ys.length ci hci Om hz hb ls ys L last hH hW hE hTr rfl (fun i hi=>by rw[Nat.zero_add])) rfl ?_
 rintro _ _ ⟨bS,bF,bo,bn,bc,bt,qz,cz,W,F,rfl,hT,hFl,rfl⟩
 refine Ya ?_
 refine Y3 ?_
 refine Yy (y_neNilNil rfl rfl un_52) ?_
 refine Yy (Zlen un_22) ?_
 refine Yy (Zgt 0 0) ?_
 refine Zn ?_
 refine G.condDF rfl Od ?_
 refine Y8 ?_
 refine Y3 ?_
 refine Zn (G.condF rfl ?_)
 refine Zh 42 (YS 0 (YS 2 (YS 4 (YE 1 (YE 3 (YE 5 (YS 6 (YS 7 (YS 8 (YS 9 (YS 10 .nil))))) .stop) .stop) (YE 3 (YE 1 (YE 5 (YS 6 (YS 7 (YS 8 (YS 9 (YS 10 .nil))))) .stop) .stop) .stop))))) ?_
 refine Yta ?_
 refine Ztcp [0,0,0] [] (c_Decoder _ _ _ _ _ _ _ _ _ _ _ _ _ _ _ _ _ _ _ _ _ _ _ _ _ _ _ _) rfl ?_ ?_
 rintro _ _ ⟨be,rfl,rfl⟩
 refine GT.eff (e_mkN (m:=0) (c:=text.length) rfl rfl rfl el_22 (by first|omega|decide) rfl rfl) rfl rfl ?_ GT.stop
 rintro _ _ ⟨b1,rfl,rfl⟩
 refine Ztcp [0] [0,1,3] (k_D1X bj sj shj zs cj hcj hzz hbz bt 2048 none F hFl Om L ls hT be 0 (some (119,3)) (Vp bS 279) b1 (List.replicate text.length 0) text Oi h48 htl1 ha hl hv) rfl ?_ GT.stop
 rintro _ _ ⟨q2,b3,o4,cs5,cap6,rfl,hg7,hc8,hp9,rfl⟩
 refine Yta ?_
 refine GT.nil (GQ.thenN (Y6 ?_))
 refine Yy (y_neNilNil rfl rfl un_52) ?_
 refine Zn (G.condF rfl (Y8 ?_))
 refine Zcp [] [0] (c_copied (⟨b3,o4,cs5,none⟩) q2 text.length cap6 0 text (Rd.ofGN hg7 hc8 hp9) Om) rfl ?_
 rintro _ _ ⟨q10,b11,o12,cs13,cap14,xs15,n16,rfl,hg17,hc18,hp19,hl20,hx21,rfl⟩
 refine Ya ?_
 refine Zn (G.ret ?_)
 subst hx21
 subst hl20
 repeat first|refine ZR ?_|refine ZB ?_
 exact ret2 [0] rfl rfl rfl rfl (⟨_,_,_,_,_,rfl,hg17,hc18,hp19,rfl⟩)
 refine GT.eff (e_mkN (m:=0) (c:=text.length) rfl rfl rfl el_22 (by first|omega|decide) rfl rfl) rfl rfl ?_ GT.stop
 rintro _ _ ⟨b22,rfl,rfl⟩
 refine Ztcp [1,1,1] [] (c_Decoder _ _ _ _ _ _ _ _ _ _ _ _ _ _ _ _ _ _ _ _ _ _ _ _ _ _ _ _) rfl ?_ GT.stop
 rintro _ _ ⟨be,rfl,rfl⟩
 refine Ztcp [1] [0,1,3] (k_D1X bj sj shj zs cj hcj hzz hbz bt 2048 none F hFl Om L ls hT be 0 (some (119,3)) (Vp bS 279) b22 (List.replicate text.length 0) text Oi h48 htl1 ha hl hv) rfl ?_ GT.stop
 rintro _ _ ⟨q23,b24,o25,cs26,cap27,rfl,hg28,hc29,hp30,rfl⟩
 refine Yta ?_
 refine GT.nil (GQ.thenN (Y6 ?_))
 refine Yy (y_neNilNil rfl rfl un_52) ?_
 refine Zn (G.condF rfl (Y8 ?_))
 refine Zcp [] [0] (c_copied (⟨b24,o25,cs26,none⟩) q23 text.length cap27 0 text (Rd.ofGN hg28 hc29 hp30) Om) rfl ?_
 rintro _ _ ⟨q31,b32,o33,cs34,cap35,xs36,n37,rfl,hg38,hc39,hp40,hl41,hx42,rfl⟩
 refine Ya ?_
 refine Zn (G.ret ?_)
 subst hx42
 subst hl41
 repeat first|refine ZR ?_|refine ZB ?_
 exact ret2 [0] rfl rfl rfl rfl (⟨_,_,_,_,_,rfl,hg38,hc39,hp40,rfl⟩)
set_option maxHeartbeats 2000000 in
theorem c_HuffDecode4 (bi so:Nat) (shi:Shp) (ys:List Nat) (ci:Nat) (hci:ys.length≤ci) (hz:ys.length≤1152921504606846976) (hb:Bytes ys) (ls:List Nat) (L last:Nat) (hH:HW ls L last) (hW:WholeL ls) (hE:EvenAll ls) (hTr:TreeC ls ys L last) (bj sj:Nat) (shj:Shp) (zs:List Nat) (cj:Nat) (hcj:zs.length≤cj) (hzz:zs.length≤1152921504606846976) (hbz:Bytes zs) (text:List Nat) (h48:text.length≤1073741824) (ev m3 ln0 ln1 ln2 ln3:Nat) (hm3:text.length=3*ev+m3) (hm31:1≤m3∧m3≤ev∧ev≤m3+3) (hFo:Four zs text ls ev m3 ln0 ln1 ln2 ln3):Con Tryz.prog 12 [Vs bi so ys.length ci,Vs bj sj zs.length cj,.bool true,Vh text.length] [] [⟨bi,so,(nats .u8 ys),shi⟩,⟨bj,sj,(nats .u8 zs),shj⟩] (fun v l'=>∃q b o cs cap,v=.tuple #[.slice q text.length cap,.bool true]∧GS q b o cs 1 cap∧text.length≤cap∧cs.take text.length=nats .u8 text∧l'=[⟨b,o,cs,none⟩]):=by
 refine Zi Tryz.func12 rfl fun w0=>?_
 refine Y5 ?_
 refine Y2 ?_
 refine Zcp [] [0] (c_ReadTable bi so shi ys 0 ys.length ci hci Om hz hb ls ys L last hH hW hE hTr rfl (fun i hi=>by rw[Nat.zero_add])) rfl ?_
 rintro _ _ ⟨bS,bF,bo,bn,bc,bt,qz,cz,W,F,rfl,hT,hFl,rfl⟩
 refine Ya ?_
 refine Y3 ?_
 refine Yy (y_neNilNil rfl rfl un_52) ?_
 refine Yy (Zlen un_22) ?_
 refine Yy (Zgt 0 0) ?_
 refine Zn ?_
 refine G.condDF rfl Od ?_
 refine Y8 ?_
 refine Y3 ?_
 refine Zn (G.condT rfl ?_)
 refine Zh 42 (YS 0 (YS 2 (YS 4 (YE 1 (YE 3 (YE 5 (YS 6 (YS 7 (YS 8 (YS 9 (YS 10 .nil))))) .stop) .stop) (YE 3 (YE 1 (YE 5 (YS 6 (YS 7 (YS 8 (YS 9 (YS 10 .nil))))) .stop) .stop) .stop))))) ?_
 refine Yta ?_
 refine Ztcp [0,0,0] [] (c_Decoder _ _ _ _ _ _ _ _ _ _ _ _ _ _ _ _ _ _ _ _ _ _ _ _ _ _ _ _) rfl ?_ ?_
 rintro _ _ ⟨be,rfl,rfl⟩
 refine GT.eff (e_mkN (m:=0) (c:=text.length) rfl rfl rfl el_22 (by first|omega|decide) rfl rfl) rfl rfl ?_ GT.stop
 rintro _ _ ⟨b1,rfl,rfl⟩
 refine Ztcp [0] [0,1,3] (k_D4X bj sj shj zs cj hcj hzz hbz bt 2048 none F hFl Om L ls hT be 0 (some (119,3)) (Vp bS 279) b1 (List.replicate text.length 0) text Oi h48 ev m3 ln0 ln1 ln2 ln3 hm3 hm31 hFo) rfl ?_ GT.stop
 rintro _ _ ⟨q2,b3,o4,cs5,cap6,rfl,hg7,hc8,hp9,rfl⟩
 refine Yta ?_
 refine GT.nil (GQ.thenN (Y6 ?_))
 refine Yy (y_neNilNil rfl rfl un_52) ?_
 refine Zn (G.condF rfl (Y8 ?_))
 refine Zcp [] [0] (c_copied (⟨b3,o4,cs5,none⟩) q2 text.length cap6 0 text (Rd.ofGN hg7 hc8 hp9) Om) rfl ?_
 rintro _ _ ⟨q10,b11,o12,cs13,cap14,xs15,n16,rfl,hg17,hc18,hp19,hl20,hx21,rfl⟩
 refine Ya ?_
 refine Zn (G.ret ?_)
 subst hx21
 subst hl20
 repeat first|refine ZR ?_|refine ZB ?_
 exact ret2 [0] rfl rfl rfl rfl (⟨_,_,_,_,_,rfl,hg17,hc18,hp19,rfl⟩)
 refine GT.eff (e_mkN (m:=0) (c:=text.length) rfl rfl rfl el_22 (by first|omega|decide) rfl rfl) rfl rfl ?_ GT.stop
 rintro _ _ ⟨b22,rfl,rfl⟩
 refine Ztcp [1,1,1] [] (c_Decoder _ _ _ _ _ _ _ _ _ _ _ _ _ _ _ _ _ _ _ _ _ _ _ _ _ _ _ _) rfl ?_ GT.stop
 rintro _ _ ⟨be,rfl,rfl⟩
 refine Ztcp [1] [0,1,3] (k_D4X bj sj shj zs cj hcj hzz hbz bt 2048 none F hFl Om L ls hT be 0 (some (119,3)) (Vp bS 279) b22 (List.replicate text.length 0) text Oi h48 ev m3 ln0 ln1 ln2 ln3 hm3 hm31 hFo) rfl ?_ GT.stop
 rintro _ _ ⟨q23,b24,o25,cs26,cap27,rfl,hg28,hc29,hp30,rfl⟩
 refine Yta ?_
 refine GT.nil (GQ.thenN (Y6 ?_))
 refine Yy (y_neNilNil rfl rfl un_52) ?_
 refine Zn (G.condF rfl (Y8 ?_))
 refine Zcp [] [0] (c_copied (⟨b24,o25,cs26,none⟩) q23 text.length cap27 0 text (Rd.ofGN hg28 hc29 hp30) Om) rfl ?_
 rintro _ _ ⟨q31,b32,o33,cs34,cap35,xs36,n37,rfl,hg38,hc39,hp40,hl41,hx42,rfl⟩
 refine Ya ?_
 refine Zn (G.ret ?_)
 subst hx42
 subst hl41
 repeat first|refine ZR ?_|refine ZB ?_
 exact ret2 [0] rfl rfl rfl rfl (⟨_,_,_,_,_,rfl,hg38,hc39,hp40,rfl⟩)
theorem k_HuffWrite (p:Bool) (sA:Seg) (qA:Option Addr) (nA cA jA:Nat) (xsA:List Nat) (hA:Rd qA nA 1 (nats .i64 xsA) sA jA) (hz0:nA≤1048576):Con Tryz.prog 7 [.slice qA nA cA,.bool p] [] [sA] (AppB .u8 (TreeB p xsA)):=by
  cases p
  · exact c_HuffWriteN sA qA nA cA jA xsA hA hz0
  · exact c_HuffWriteP sA qA nA cA jA xsA hA hz0
theorem k_HuffText (f:Bool) (sA:Seg) (qA:Option Addr) (nA cA jA:Nat) (xsA:List Nat) (hA:Rd qA nA 1 (nats .i64 xsA) sA jA) (sB:Seg) (qB:Option Addr) (nB cB jB:Nat) (xsB:List Nat) (hB:Rd qB nB 1 (nats .u8 xsB) sB jB) (paB:PA qB cB) (hcB:nB≤cB) (hz:nA≤256) (hzB:nB≤1048576) (hbB:Bytes xsB) (h6:f=true→3*((nB+3)/4)<nB):Con Tryz.prog 11 [.slice qA nA cA,.slice qB nB cB,.bool f] [] [sA,sB] (AppB .u8 (TextB f xsA xsB)):=by
  cases f
  · exact c_HuffText1 sA qA nA cA jA xsA hA sB qB nB cB jB xsB hB paB hcB hz hzB hbB
  · have e:=hB.lenN
    subst e
    exact c_HuffText4 sA qA nA cA jA xsA hA sB qB xsB.length cB jB xsB hB paB hcB hz hzB hbB (h6 rfl)
theorem k_HuffDecode (f:Bool) (qT:Option Addr) (bT oT:Nat) (csT:List Value) (capT:Nat) (tb:List Nat) (nT:Nat) (hgT:GS qT bT oT csT 1 capT) (hcT:nT≤capT) (hpT:csT.take nT=nats .u8 tb) (hlT:tb.length=nT) (qD:Option Addr) (bD oD:Nat) (csD:List Value) (capD:Nat) (zs:List Nat) (nD:Nat) (hgD:GS qD bD oD csD 1 capD) (hcD:nD≤capD) (hpD:csD.take nD=nats .u8 zs) (hlD:zs.length=nD) (text:List Nat) (nX:Nat) (hlX:text.length=nX) (ls:List Nat) (L last:Nat) (hH:HW ls L last) (hW:WholeL ls) (hTr:TreeC ls tb L last) (hb:Bytes tb) (hT2:2≤nT∧nT≤200) (h1:1≤nX∧nX≤16384) (hTx:TextB f ls text zs) (h6:f=true→3*((nX+3)/4)<nX):
    Con Tryz.prog 12 [.slice qT nT capT,.slice qD nD capD,.bool f,Vh nX] [] [⟨bT,oT,csT,none⟩,⟨bD,oD,csD,none⟩] (fun v l'=>∃q b o cs cap,v=.tuple #[.slice q text.length cap,.bool true]∧GS q b o cs 1 cap∧text.length≤cap∧cs.take text.length=nats .u8 text∧l'=[⟨b,o,cs,none⟩]):=by
  subst hlT;subst hlD;subst hlX
  have eT:=hgT.some' Om
  subst eT
  have hE:=hTx.even
  cases f
  · obtain⟨a1,a2,a3,a4,a5⟩:=hTx
    have h11:=tN_11 (ls:=ls) text fun c hc=>(a2 c hc).2.2
    have eD:=hgD.some' Om
    subst eD
    exact Con.front hpT (Con.swapR (Con.front hpD (Con.swapR (c_HuffDecode1 bT oT none tb capT hcT Om hb ls L last hH hW hE hTr bD oD none zs capD hcD Om a3 text Om h1.1 (fun c hc=>(a2 c hc).2.1) a4 (by rw[a4];exact a5)))))
  · obtain⟨ln0,ln1,ln2,ln3,hF,hz⟩:=hTx.four (h6 rfl)
    have h9:=hF.len
    have eD:=hgD.some' Om
    subst eD
    have h6':=h6 rfl
    exact Con.front hpT (Con.swapR (Con.front hpD (Con.swapR (c_HuffDecode4 bT oT none tb capT hcT Om hb ls L last hH hW hE hTr bD oD none zs capD hcD Om hF.bytes text Om _ _ ln0 ln1 ln2 ln3 Om Om hF))))
set_option maxHeartbeats 4000000 in
theorem c_FnHuffAny (sA:Seg) (qA:Option Addr) (nA cA jA:Nat) (xsA:List Nat) (hA:Rd qA nA 1 (nats .u8 xsA) sA jA) (sB:Seg) (qB:Option Addr) (nB cB jB:Nat) (xsB:List Nat) (hB:Rd qB nB 1 (nats .u8 xsB) sB jB) (sC:Seg) (qC:Option Addr) (nC cC jC:Nat) (xsC:List Nat) (hC:Rd qC nC 1 (nats .u8 xsC) sC jC) (p f:Bool) (hbA:Bytes xsA) (hbB:Bytes xsB) (hbC:Bytes xsC):Con Tryz.prog 3 [.slice qA nA cA,.slice qB nB cB,.slice qC nC cC,.agg #[.bool p,.bool f]] [] [sA,sB,sC] (fun v l'=>v=.bool true∧l'=[]):=by
 refine Zi Tryz.func3 rfl fun w0=>?_
 refine Y5 ?_
 refine Ze (e_box rfl rfl rfl rfl rfl) fun b1=>?_
 refine Ya ?_
 refine Z4 (G.seq ?_)
 have hlA:=hA.lenN
 have hlB:=hB.lenN
 have hlC:=hC.lenN
 refine YG ?_
 refine Yy (Zlen un_22) ?_
 refine Zy (Zgt nA 2147483647) ?_
 refine Za 1 ?_
 refine GL.split (t:=22) (p:=((2147483647:Nat):Int)<((nA:Nat):Int)) rfl (fun h2=>?_) (fun h2=>?_)
 refine Ya ?_
 refine Zn (G.condT rfl (Y5 ?_))
 refine Zn (G.ret ?_)
 repeat first|refine ZR ?_|refine ZB ?_
 exact ret1 [] rfl rfl rfl (⟨rfl,rfl⟩)
 refine Ya ?_
 refine Yy (Zlen un_22) ?_
 refine Zy (Zgt nB 2147483647) ?_
 refine Za 2 ?_
 refine GL.split (t:=27) (p:=((2147483647:Nat):Int)<((nB:Nat):Int)) rfl (fun h3=>?_) (fun h3=>?_)
 refine Ya ?_
 refine Zn (G.condT rfl (Y5 ?_))
 refine Zn (G.ret ?_)
 repeat first|refine ZR ?_|refine ZB ?_
 exact ret1 [] rfl rfl rfl (⟨rfl,rfl⟩)
 refine Ya ?_
 refine Yy (Zlen un_22) ?_
 refine Yy (Zgt nC 2147483647) ?_
 refine Zn ?_
 refine Zc (fun h4=>?_) (fun h4=>?_)
 refine Y5 ?_
 refine Zn (G.ret ?_)
 repeat first|refine ZR ?_|refine ZB ?_
 exact ret1 [] rfl rfl rfl (⟨rfl,rfl⟩)
 refine Z7 (G.seq ?_)
 refine Zg 0 [y_0,r_1,y_2,r_3,y_4,y_5] ?_
 refine Ypy (Zxb 0 0 ae_23) ?_
 refine Ypr (Zl 0 0 ag_4) ?_
 refine Ypy (Zxb 1 1 ae_23) ?_
 refine Ypr (Zl 0 1 ag_4) ?_
 refine GP.nil (GQ.thenN (Y5 ?_))
 refine Zcp [] [1] (c_chosen sA qA nA cA jA xsA hA Om Oa) rfl ?_
 rintro _ _ ⟨q5,b6,o7,cs8,cap9,xs10,n11,rfl,hg12,hc13,hp14,hl15,hx16,rfl⟩
 refine Ya ?_
 refine Y3 ?_
 refine Yy (Zlen un_22) ?_
 refine Zy (Zlt n11 2) ?_
 refine Za 1 ?_
 refine GL.split (t:=41) (p:=((n11:Nat):Int)<((2:Nat):Int)) rfl (fun h17=>?_) (fun h17=>?_)
 refine Ya ?_
 refine GL.skipU rfl rfl rfl rfl rfl ?_
 refine GL.skipU rfl rfl rfl rfl rfl ?_
 refine GL.skipU rfl rfl rfl rfl rfl ?_
 refine GL.skipU rfl rfl rfl rfl rfl ?_
 refine GL.skipU rfl rfl rfl rfl rfl ?_
 refine GL.skipU rfl rfl rfl rfl rfl ?_
 refine GL.skipU rfl rfl rfl rfl rfl ?_
 refine GL.skipU rfl rfl rfl rfl rfl ?_
 refine GL.skipU rfl rfl rfl rfl rfl ?_
 refine GL.skipU rfl rfl rfl rfl rfl ?_
 refine GL.skipU rfl rfl rfl rfl rfl ?_
 refine GL.skipU rfl rfl rfl rfl rfl ?_
 refine GL.skipU rfl rfl rfl rfl rfl ?_
 refine Ya ?_
 refine Zn (G.condT rfl (Y5 ?_))
 refine Zn (G.ret ?_)
 repeat first|refine ZR ?_|refine ZB ?_
 exact ret1 [] rfl rfl rfl (⟨rfl,rfl⟩)
 refine Ya ?_
 refine Yy (Zlen un_22) ?_
 refine Zy (Zlt nC 1) ?_
 refine Za 2 ?_
 refine GL.split (t:=46) (p:=((nC:Nat):Int)<((1:Nat):Int)) rfl (fun h18=>?_) (fun h18=>?_)
 refine Ya ?_
 refine GL.skipU rfl rfl rfl rfl rfl ?_
 refine GL.skipU rfl rfl rfl rfl rfl ?_
 refine GL.skipU rfl rfl rfl rfl rfl ?_
 refine GL.skipU rfl rfl rfl rfl rfl ?_
 refine GL.skipU rfl rfl rfl rfl rfl ?_
 refine GL.skipU rfl rfl rfl rfl rfl ?_
 refine GL.skipU rfl rfl rfl rfl rfl ?_
 refine GL.skipU rfl rfl rfl rfl rfl ?_
 refine GL.skipU rfl rfl rfl rfl rfl ?_
 refine GL.skipU rfl rfl rfl rfl rfl ?_
 refine GL.skipU rfl rfl rfl rfl rfl ?_
 refine GL.skipU rfl rfl rfl rfl rfl ?_
 refine GL.skipU rfl rfl rfl rfl rfl ?_
 refine Ya ?_
 refine Zn (G.condT rfl (Y5 ?_))
 refine Zn (G.ret ?_)
 repeat first|refine ZR ?_|refine ZB ?_
 exact ret1 [] rfl rfl rfl (⟨rfl,rfl⟩)
 refine Ya ?_
 refine Yy (Zlen un_22) ?_
 refine Zy (Zgt nC 16384) ?_
 refine Za 2 ?_
 refine GL.split (t:=51) (p:=((16384:Nat):Int)<((nC:Nat):Int)) rfl (fun h19=>?_) (fun h19=>?_)
 refine Ya ?_
 refine GL.skipU rfl rfl rfl rfl rfl ?_
 refine GL.skipU rfl rfl rfl rfl rfl ?_
 refine GL.skipU rfl rfl rfl rfl rfl ?_
 refine GL.skipU rfl rfl rfl rfl rfl ?_
 refine GL.skipU rfl rfl rfl rfl rfl ?_
 refine GL.skipU rfl rfl rfl rfl rfl ?_
 refine GL.skipU rfl rfl rfl rfl rfl ?_
 refine GL.skipU rfl rfl rfl rfl rfl ?_
 refine GL.skipU rfl rfl rfl rfl rfl ?_
 refine GL.skipU rfl rfl rfl rfl rfl ?_
 refine GL.skipU rfl rfl rfl rfl rfl ?_
 refine GL.skipU rfl rfl rfl rfl rfl ?_
 refine GL.skipU rfl rfl rfl rfl rfl ?_
 refine Ya ?_
 refine Zn (G.condT rfl (Y5 ?_))
 refine Zn (G.ret ?_)
 repeat first|refine ZR ?_|refine ZB ?_
 exact ret1 [] rfl rfl rfl (⟨rfl,rfl⟩)
 refine Za 2 ?_
 refine GL.splitB (t:=53) (b:=f) rfl (fun h20=>?_) (fun h20=>?_)
 refine Ya ?_
 refine Yy (Zlen un_22) ?_
 refine Zy (Zlt nC 6) ?_
 refine Za 1 ?_
 refine GL.split (t:=57) (p:=((nC:Nat):Int)<((6:Nat):Int)) rfl (fun h21=>?_) (fun h21=>?_)
 refine Ya ?_
 refine Zn (G.condT rfl (Y5 ?_))
 refine Zn (G.ret ?_)
 repeat first|refine ZR ?_|refine ZB ?_
 exact ret1 [] rfl rfl rfl (⟨rfl,rfl⟩)
 refine Ya ?_
 refine Yy (Zlen un_22) ?_
 refine Yy (ZaddNh nC 3) ?_
 refine Yy (ZquoNh (nC+3) 4) ?_
 refine Yy (ZmulNh 3 ((nC+3)/4)) ?_
 refine Yy (Zlen un_22) ?_
 refine Yy (Zge (3*((nC+3)/4)) nC) ?_
 refine Zn ?_
 refine Zc (fun h22=>?_) (fun h22=>?_)
 refine Y5 ?_
 refine Zn (G.ret ?_)
 repeat first|refine ZR ?_|refine ZB ?_
 exact ret1 [] rfl rfl rfl (⟨rfl,rfl⟩)
 refine Z7 (G.seq ?_)
 obtain⟨hvl,hvB⟩:=hx16
 refine YG ?_
 refine Zcp [] [0,3] (c_Lengths (⟨b6,o7,cs8,none⟩) q5 n11 cap9 0 xs10 (Rd.ofGN hg12 hc13 hp14) sB qB nB cB jB xsB hB Om hvB Om hbB) rfl ?_
 rintro _ _ ⟨q23,b24,o25,cs26,cap27,xs28,n29,rfl,hg30,hc31,hp32,hl33,hx34,rfl⟩
 refine Ya ?_
 refine Z4 (G.seq ?_)
 have hLl:=hx34
 refine YG ?_
 refine Zcc [] [0] (c_Whole (⟨b24,o25,cs26,none⟩) q23 n29 cap27 0 xs28 (Rd.ofGN hg30 hc31 hp32) Om) rfl ?_
 refine Yy (y_not rfl rfl) ?_
 refine Zn ?_
 refine Zc (fun h35=>?_) (fun h35=>?_)
 refine Y5 ?_
 refine Zn (G.ret ?_)
 repeat first|refine ZR ?_|refine ZB ?_
 exact ret1 [] rfl rfl rfl (⟨rfl,rfl⟩)
 refine Z7 (G.seq ?_)
 have hWh:WholeL xs28:=Decidable.of_not_not Oa
 refine YG ?_
 refine Zcp [] [0] (k_HuffWrite p (⟨b24,o25,cs26,none⟩) q23 n29 cap27 0 xs28 (Rd.ofGN hg30 hc31 hp32) Om) rfl ?_
 rintro _ _ ⟨ok48,q36,b37,o38,cs39,cap40,xs41,n42,rfl,hg43,hc44,hp45,hl46,hx47,rfl⟩
 refine Ya ?_
 refine Y3 ?_
 refine Zy (y_notB rfl rfl) ?_
 refine Za 1 ?_
 refine GL.splitB (t:=83) (b:= !ok48) rfl (fun h49=>?_) (fun h49=>?_)
 refine Ya ?_
 refine GL.skipU rfl rfl rfl rfl rfl ?_
 refine GL.skipU rfl rfl rfl rfl rfl ?_
 refine GL.skipU rfl rfl rfl rfl rfl ?_
 refine GL.skipU rfl rfl rfl rfl rfl ?_
 refine Ya ?_
 refine Zn (G.condT rfl (Y5 ?_))
 refine Zn (G.ret ?_)
 repeat first|refine ZR ?_|refine ZB ?_
 exact ret1 [] rfl rfl rfl (⟨rfl,rfl⟩)
 refine Ya ?_
 have hok:ok48=true:=by cases hq:ok48<;>simp_all
 have hTB:=hx47 hok
 have hTany:=hTB.any hWh
 obtain⟨hTbB,hT2,hT200⟩:=hTB.bytes hWh
 refine Zcp [] [0] (c_HuffLeaves (⟨b37,o38,cs39,none⟩) q36 n42 cap40 0 xs41 (Rd.ofGN hg43 hc44 hp45) hg43.pa hc44 hTbB Om hTany) rfl ?_
 rintro _ _ ⟨ok50,rfl,rfl⟩
 refine Zy (y_notB rfl rfl) ?_
 refine Za 2 ?_
 refine GL.splitB (t:=88) (b:= !ok50) rfl (fun h51=>?_) (fun h51=>?_)
 refine Ya ?_
 refine GL.skipU rfl rfl rfl rfl rfl ?_
 refine GL.skipU rfl rfl rfl rfl rfl ?_
 refine GL.skipU rfl rfl rfl rfl rfl ?_
 refine GL.skipU rfl rfl rfl rfl rfl ?_
 refine Ya ?_
 refine Zn (G.condT rfl (Y5 ?_))
 refine Zn (G.ret ?_)
 repeat first|refine ZR ?_|refine ZB ?_
 exact ret1 [] rfl rfl rfl (⟨rfl,rfl⟩)
 refine Za 2 ?_
 refine GL.splitB (t:=90) (b:=p) rfl (fun h52=>?_) (fun h52=>?_)
 refine Ya ?_
 have hp9:p=true:=Oa
 have hTP:TreeP xs28 xs41:=by rw[hp9] at hTB;exact hTB
 obtain⟨L,la,cs,b,hHW,hc13,ha63,hFB,hb127,htb⟩:=hTP.ex
 obtain⟨E,hD,hLo,hr0,hr1,hr2⟩:=hFB.read
 obtain⟨hcut,hcn⟩:=cutB htb hl46
 have hbc:Bytes ((xs41.drop 1).take (n42-1)):=by rw[hcut];exact hFB.bytes
 have hLc:Low ((xs41.drop 1).take (n42-1)) (n42-1) 0 (lowB 1 4++E):=by rw[hcut,hcn];exact hLo
 have hD53:Rd (cutA q36 1 1 cap40) (n42-1) 1 (nats .u8 ((xs41.drop 1).take (n42-1))) ⟨b37,o38,cs39,none⟩ (0+1*1):=Rd.cut (Rd.ofGN hg43 hc44 hp45) Om (by simp[nats,ints,List.map_take,List.map_drop]) (fun h0=>cutA_some ((Rd.ofGN hg43 hc44 hp45).ad Om) Om Om)
 refine Yy (y_slGL (lo:=1) rfl rfl rfl se_22 Om hg43.pa.nilcap) ?_
 refine Zcp [] [0] (c_calm (⟨b37,o38,cs39,none⟩) (cutA q36 1 1 cap40) (n42-1) (cap40-1) (0+1*1) ((xs41.drop 1).take (n42-1)) hD53 hg43.pa.cut Om cs E hbc Om hD Om ha63 hLc) rfl ?_
 rintro _ _ ⟨ok54,P55,rfl,h56,h57,h58,rfl⟩
 refine Yy (y_notB rfl rfl) ?_
 refine Zn ?_
 refine G.cond rfl (fun h59=>?_) (fun h59=>?_)
 refine Y5 ?_
 refine Zn (G.ret ?_)
 repeat first|refine ZR ?_|refine ZB ?_
 exact ret1 [] rfl rfl rfl (⟨rfl,rfl⟩)
 refine Z7 (G.seq ?_)
 have hokc:ok54=true:=by cases hq:ok54<;>simp_all
 obtain⟨c0,hc0⟩:=h56
 have hTC:TreeC xs28 xs41 L la:=.inr ⟨cs,b,hc13,ha63,hFB,hb127,htb,calm_all hc0 h57 hFB.cB.sum (h58 hokc)⟩
 refine YG ?_
 refine Zcp [] [1,6] (c_worded (⟨b24,o25,cs26,none⟩) q23 n29 cap27 0 xs28 (Rd.ofGN hg30 hc31 hp32) sC qC nC cC jC xsC hC Om Om hbC (by obtain⟨j,h1,h2⟩:=hWh.some';exact⟨j,Om,h2⟩)) rfl ?_
 rintro _ _ ⟨q60,b61,o62,cs63,cap64,xs65,n66,rfl,hg67,hc68,hp69,hl70,hx71,rfl⟩
 refine Ya ?_
 refine Z4 ?_
 obtain⟨hxl,hxq⟩:=hx71
 have hxB:=bytes_text hxq
 refine YG ?_
 refine Zcp [] [2,0] (k_HuffText f (⟨b24,o25,cs26,none⟩) q23 n29 cap27 0 xs28 (Rd.ofGN hg30 hc31 hp32) (⟨b61,o62,cs63,none⟩) q60 n66 cap64 0 xs65 (Rd.ofGN hg67 hc68 hp69) hg67.pa hc68 Om Om hxB (by intro h9;first|omega|(have h8:f=false:=Oa;rw[h8] at h9;cases h9))) rfl ?_
 rintro _ _ ⟨ok84,q72,b73,o74,cs75,cap76,xs77,n78,rfl,hg79,hc80,hp81,hl82,hx83,rfl⟩
 refine Ya ?_
 refine Y3 ?_
 refine Yy (y_notB rfl rfl) ?_
 refine Zn ?_
 refine G.cond rfl (fun h85=>?_) (fun h85=>?_)
 refine Y5 ?_
 refine Zn (G.ret ?_)
 repeat first|refine ZR ?_|refine ZB ?_
 exact ret1 [] rfl rfl rfl (⟨rfl,rfl⟩)
 refine Z7 (G.seq ?_)
 have hokd:ok84=true:=by cases hq:ok84<;>simp_all
 have hTx:=hx83 hokd
 refine YG ?_
 refine Yy (Zlen un_22) ?_
 refine Zcp [] [2,0] (k_HuffDecode f q36 b37 o38 cs39 cap40 xs41 n42 hg43 hc44 hp45 hl46 q72 b73 o74 cs75 cap76 xs77 n78 hg79 hc80 hp81 hl82 xs65 n66 hl70 xs28 L la hHW hWh hTC hTbB Om Om hTx (by intro h9;first|omega|(have h8:f=false:=Oa;rw[h8] at h9;cases h9))) rfl ?_
 rintro _ _ ⟨q86,b87,o88,cs89,cap90,rfl,hg91,hc92,hp93,rfl⟩
 refine Ya ?_
 refine Y2 ?_
 refine Zcc [] [0,2] (c_eq (⟨b87,o88,cs89,none⟩) q86 xs65.length cap90 0 xs65 (Rd.ofGN hg91 hc92 hp93) (⟨b61,o62,cs63,none⟩) q60 n66 cap64 0 xs65 (Rd.ofGN hg67 hc68 hp69) Om) rfl ?_
 refine Ya ?_
 refine Zn (G.ret ?_)
 repeat first|refine ZR ?_|refine ZB ?_
 exact ret1 [] rfl rfl rfl (⟨congrArg Value.bool (decide_eq_true rfl),rfl⟩)
 refine Ya ?_
 refine Zn (G.condF rfl (Z7 (G.seq ?_)))
 have hp9:p=false:=Oa
 have hTN:TreeN xs28 xs41:=by rw[hp9] at hTB;exact hTB
 obtain⟨L,la,hHW,hla,htb⟩:=hTN.ex
 have hTC:TreeC xs28 xs41 L la:=.inl ⟨hla,htb⟩
 refine YG ?_
 refine Zcp [] [1,6] (c_worded (⟨b24,o25,cs26,none⟩) q23 n29 cap27 0 xs28 (Rd.ofGN hg30 hc31 hp32) sC qC nC cC jC xsC hC Om Om hbC (by obtain⟨j,h1,h2⟩:=hWh.some';exact⟨j,Om,h2⟩)) rfl ?_
 rintro _ _ ⟨q94,b95,o96,cs97,cap98,xs99,n100,rfl,hg101,hc102,hp103,hl104,hx105,rfl⟩
 refine Ya ?_
 refine Z4 ?_
 obtain⟨hxl,hxq⟩:=hx105
 have hxB:=bytes_text hxq
 refine YG ?_
 refine Zcp [] [2,0] (k_HuffText f (⟨b24,o25,cs26,none⟩) q23 n29 cap27 0 xs28 (Rd.ofGN hg30 hc31 hp32) (⟨b95,o96,cs97,none⟩) q94 n100 cap98 0 xs99 (Rd.ofGN hg101 hc102 hp103) hg101.pa hc102 Om Om hxB (by intro h9;first|omega|(have h8:f=false:=Oa;rw[h8] at h9;cases h9))) rfl ?_
 rintro _ _ ⟨ok118,q106,b107,o108,cs109,cap110,xs111,n112,rfl,hg113,hc114,hp115,hl116,hx117,rfl⟩
 refine Ya ?_
 refine Y3 ?_
 refine Yy (y_notB rfl rfl) ?_
 refine Zn ?_
 refine G.cond rfl (fun h119=>?_) (fun h119=>?_)
 refine Y5 ?_
 refine Zn (G.ret ?_)
 repeat first|refine ZR ?_|refine ZB ?_
 exact ret1 [] rfl rfl rfl (⟨rfl,rfl⟩)
 refine Z7 (G.seq ?_)
 have hokd:ok118=true:=by cases hq:ok118<;>simp_all
 have hTx:=hx117 hokd
 refine YG ?_
 refine Yy (Zlen un_22) ?_
 refine Zcp [] [2,0] (k_HuffDecode f q36 b37 o38 cs39 cap40 xs41 n42 hg43 hc44 hp45 hl46 q106 b107 o108 cs109 cap110 xs111 n112 hg113 hc114 hp115 hl116 xs99 n100 hl104 xs28 L la hHW hWh hTC hTbB Om Om hTx (by intro h9;first|omega|(have h8:f=false:=Oa;rw[h8] at h9;cases h9))) rfl ?_
 rintro _ _ ⟨q120,b121,o122,cs123,cap124,rfl,hg125,hc126,hp127,rfl⟩
 refine Ya ?_
 refine Y2 ?_
 refine Zcc [] [0,2] (c_eq (⟨b121,o122,cs123,none⟩) q120 xs99.length cap124 0 xs99 (Rd.ofGN hg125 hc126 hp127) (⟨b95,o96,cs97,none⟩) q94 n100 cap98 0 xs99 (Rd.ofGN hg101 hc102 hp103) Om) rfl ?_
 refine Ya ?_
 refine Zn (G.ret ?_)
 repeat first|refine ZR ?_|refine ZB ?_
 exact ret1 [] rfl rfl rfl (⟨congrArg Value.bool (decide_eq_true rfl),rfl⟩)
 refine Ya ?_
 refine GL.skipU rfl rfl rfl rfl rfl ?_
 refine GL.skipU rfl rfl rfl rfl rfl ?_
 refine GL.skipU rfl rfl rfl rfl rfl ?_
 refine GL.skipU rfl rfl rfl rfl rfl ?_
 refine GL.skipU rfl rfl rfl rfl rfl ?_
 refine GL.skipU rfl rfl rfl rfl rfl ?_
 refine GL.skipU rfl rfl rfl rfl rfl ?_
 refine GL.skipU rfl rfl rfl rfl rfl ?_
 refine Ya ?_
 refine Zn (G.condF rfl (Z7 (G.seq ?_)))
 obtain⟨hvl,hvB⟩:=hx16
 refine YG ?_
 refine Zcp [] [0,3] (c_Lengths (⟨b6,o7,cs8,none⟩) q5 n11 cap9 0 xs10 (Rd.ofGN hg12 hc13 hp14) sB qB nB cB jB xsB hB Om hvB Om hbB) rfl ?_
 rintro _ _ ⟨q128,b129,o130,cs131,cap132,xs133,n134,rfl,hg135,hc136,hp137,hl138,hx139,rfl⟩
 refine Ya ?_
 refine Z4 (G.seq ?_)
 have hLl:=hx139
 refine YG ?_
 refine Zcc [] [0] (c_Whole (⟨b129,o130,cs131,none⟩) q128 n134 cap132 0 xs133 (Rd.ofGN hg135 hc136 hp137) Om) rfl ?_
 refine Yy (y_not rfl rfl) ?_
 refine Zn ?_
 refine Zc (fun h140=>?_) (fun h140=>?_)
 refine Y5 ?_
 refine Zn (G.ret ?_)
 repeat first|refine ZR ?_|refine ZB ?_
 exact ret1 [] rfl rfl rfl (⟨rfl,rfl⟩)
 refine Z7 (G.seq ?_)
 have hWh:WholeL xs133:=Decidable.of_not_not Oa
 refine YG ?_
 refine Zcp [] [0] (k_HuffWrite p (⟨b129,o130,cs131,none⟩) q128 n134 cap132 0 xs133 (Rd.ofGN hg135 hc136 hp137) Om) rfl ?_
 rintro _ _ ⟨ok153,q141,b142,o143,cs144,cap145,xs146,n147,rfl,hg148,hc149,hp150,hl151,hx152,rfl⟩
 refine Ya ?_
 refine Y3 ?_
 refine Zy (y_notB rfl rfl) ?_
 refine Za 1 ?_
 refine GL.splitB (t:=83) (b:= !ok153) rfl (fun h154=>?_) (fun h154=>?_)
 refine Ya ?_
 refine GL.skipU rfl rfl rfl rfl rfl ?_
 refine GL.skipU rfl rfl rfl rfl rfl ?_
 refine GL.skipU rfl rfl rfl rfl rfl ?_
 refine GL.skipU rfl rfl rfl rfl rfl ?_
 refine Ya ?_
 refine Zn (G.condT rfl (Y5 ?_))
 refine Zn (G.ret ?_)
 repeat first|refine ZR ?_|refine ZB ?_
 exact ret1 [] rfl rfl rfl (⟨rfl,rfl⟩)
 refine Ya ?_
 have hok:ok153=true:=by cases hq:ok153<;>simp_all
 have hTB:=hx152 hok
 have hTany:=hTB.any hWh
 obtain⟨hTbB,hT2,hT200⟩:=hTB.bytes hWh
 refine Zcp [] [0] (c_HuffLeaves (⟨b142,o143,cs144,none⟩) q141 n147 cap145 0 xs146 (Rd.ofGN hg148 hc149 hp150) hg148.pa hc149 hTbB Om hTany) rfl ?_
 rintro _ _ ⟨ok155,rfl,rfl⟩
 refine Zy (y_notB rfl rfl) ?_
 refine Za 2 ?_
 refine GL.splitB (t:=88) (b:= !ok155) rfl (fun h156=>?_) (fun h156=>?_)
 refine Ya ?_
 refine GL.skipU rfl rfl rfl rfl rfl ?_
 refine GL.skipU rfl rfl rfl rfl rfl ?_
 refine GL.skipU rfl rfl rfl rfl rfl ?_
 refine GL.skipU rfl rfl rfl rfl rfl ?_
 refine Ya ?_
 refine Zn (G.condT rfl (Y5 ?_))
 refine Zn (G.ret ?_)
 repeat first|refine ZR ?_|refine ZB ?_
 exact ret1 [] rfl rfl rfl (⟨rfl,rfl⟩)
 refine Za 2 ?_
 refine GL.splitB (t:=90) (b:=p) rfl (fun h157=>?_) (fun h157=>?_)
 refine Ya ?_
 have hp9:p=true:=Oa
 have hTP:TreeP xs133 xs146:=by rw[hp9] at hTB;exact hTB
 obtain⟨L,la,cs,b,hHW,hc13,ha63,hFB,hb127,htb⟩:=hTP.ex
 obtain⟨E,hD,hLo,hr0,hr1,hr2⟩:=hFB.read
 obtain⟨hcut,hcn⟩:=cutB htb hl151
 have hbc:Bytes ((xs146.drop 1).take (n147-1)):=by rw[hcut];exact hFB.bytes
 have hLc:Low ((xs146.drop 1).take (n147-1)) (n147-1) 0 (lowB 1 4++E):=by rw[hcut,hcn];exact hLo
 have hD158:Rd (cutA q141 1 1 cap145) (n147-1) 1 (nats .u8 ((xs146.drop 1).take (n147-1))) ⟨b142,o143,cs144,none⟩ (0+1*1):=Rd.cut (Rd.ofGN hg148 hc149 hp150) Om (by simp[nats,ints,List.map_take,List.map_drop]) (fun h0=>cutA_some ((Rd.ofGN hg148 hc149 hp150).ad Om) Om Om)
 refine Yy (y_slGL (lo:=1) rfl rfl rfl se_22 Om hg148.pa.nilcap) ?_
 refine Zcp [] [0] (c_calm (⟨b142,o143,cs144,none⟩) (cutA q141 1 1 cap145) (n147-1) (cap145-1) (0+1*1) ((xs146.drop 1).take (n147-1)) hD158 hg148.pa.cut Om cs E hbc Om hD Om ha63 hLc) rfl ?_
 rintro _ _ ⟨ok159,P160,rfl,h161,h162,h163,rfl⟩
 refine Yy (y_notB rfl rfl) ?_
 refine Zn ?_
 refine G.cond rfl (fun h164=>?_) (fun h164=>?_)
 refine Y5 ?_
 refine Zn (G.ret ?_)
 repeat first|refine ZR ?_|refine ZB ?_
 exact ret1 [] rfl rfl rfl (⟨rfl,rfl⟩)
 refine Z7 (G.seq ?_)
 have hokc:ok159=true:=by cases hq:ok159<;>simp_all
 obtain⟨c0,hc0⟩:=h161
 have hTC:TreeC xs133 xs146 L la:=.inr ⟨cs,b,hc13,ha63,hFB,hb127,htb,calm_all hc0 h162 hFB.cB.sum (h163 hokc)⟩
 refine YG ?_
 refine Zcp [] [1,6] (c_worded (⟨b129,o130,cs131,none⟩) q128 n134 cap132 0 xs133 (Rd.ofGN hg135 hc136 hp137) sC qC nC cC jC xsC hC Om Om hbC (by obtain⟨j,h1,h2⟩:=hWh.some';exact⟨j,Om,h2⟩)) rfl ?_
 rintro _ _ ⟨q165,b166,o167,cs168,cap169,xs170,n171,rfl,hg172,hc173,hp174,hl175,hx176,rfl⟩
 refine Ya ?_
 refine Z4 ?_
 obtain⟨hxl,hxq⟩:=hx176
 have hxB:=bytes_text hxq
 refine YG ?_
 refine Zcp [] [2,0] (k_HuffText f (⟨b129,o130,cs131,none⟩) q128 n134 cap132 0 xs133 (Rd.ofGN hg135 hc136 hp137) (⟨b166,o167,cs168,none⟩) q165 n171 cap169 0 xs170 (Rd.ofGN hg172 hc173 hp174) hg172.pa hc173 Om Om hxB (by intro h9;first|omega|(have h8:f=false:=Oa;rw[h8] at h9;cases h9))) rfl ?_
 rintro _ _ ⟨ok189,q177,b178,o179,cs180,cap181,xs182,n183,rfl,hg184,hc185,hp186,hl187,hx188,rfl⟩
 refine Ya ?_
 refine Y3 ?_
 refine Yy (y_notB rfl rfl) ?_
 refine Zn ?_
 refine G.cond rfl (fun h190=>?_) (fun h190=>?_)
 refine Y5 ?_
 refine Zn (G.ret ?_)
 repeat first|refine ZR ?_|refine ZB ?_
 exact ret1 [] rfl rfl rfl (⟨rfl,rfl⟩)
 refine Z7 (G.seq ?_)
 have hokd:ok189=true:=by cases hq:ok189<;>simp_all
 have hTx:=hx188 hokd
 refine YG ?_
 refine Yy (Zlen un_22) ?_
 refine Zcp [] [2,0] (k_HuffDecode f q141 b142 o143 cs144 cap145 xs146 n147 hg148 hc149 hp150 hl151 q177 b178 o179 cs180 cap181 xs182 n183 hg184 hc185 hp186 hl187 xs170 n171 hl175 xs133 L la hHW hWh hTC hTbB Om Om hTx (by intro h9;first|omega|(have h8:f=false:=Oa;rw[h8] at h9;cases h9))) rfl ?_
 rintro _ _ ⟨q191,b192,o193,cs194,cap195,rfl,hg196,hc197,hp198,rfl⟩
 refine Ya ?_
 refine Y2 ?_
 refine Zcc [] [0,2] (c_eq (⟨b192,o193,cs194,none⟩) q191 xs170.length cap195 0 xs170 (Rd.ofGN hg196 hc197 hp198) (⟨b166,o167,cs168,none⟩) q165 n171 cap169 0 xs170 (Rd.ofGN hg172 hc173 hp174) Om) rfl ?_
 refine Ya ?_
 refine Zn (G.ret ?_)
 repeat first|refine ZR ?_|refine ZB ?_
 exact ret1 [] rfl rfl rfl (⟨congrArg Value.bool (decide_eq_true rfl),rfl⟩)
 refine Ya ?_
 refine Zn (G.condF rfl (Z7 (G.seq ?_)))
 have hp9:p=false:=Oa
 have hTN:TreeN xs133 xs146:=by rw[hp9] at hTB;exact hTB
 obtain⟨L,la,hHW,hla,htb⟩:=hTN.ex
 have hTC:TreeC xs133 xs146 L la:=.inl ⟨hla,htb⟩
 refine YG ?_
 refine Zcp [] [1,6] (c_worded (⟨b129,o130,cs131,none⟩) q128 n134 cap132 0 xs133 (Rd.ofGN hg135 hc136 hp137) sC qC nC cC jC xsC hC Om Om hbC (by obtain⟨j,h1,h2⟩:=hWh.some';exact⟨j,Om,h2⟩)) rfl ?_
 rintro _ _ ⟨q199,b200,o201,cs202,cap203,xs204,n205,rfl,hg206,hc207,hp208,hl209,hx210,rfl⟩
 refine Ya ?_
 refine Z4 ?_
 obtain⟨hxl,hxq⟩:=hx210
 have hxB:=bytes_text hxq
 refine YG ?_
 refine Zcp [] [2,0] (k_HuffText f (⟨b129,o130,cs131,none⟩) q128 n134 cap132 0 xs133 (Rd.ofGN hg135 hc136 hp137) (⟨b200,o201,cs202,none⟩) q199 n205 cap203 0 xs204 (Rd.ofGN hg206 hc207 hp208) hg206.pa hc207 Om Om hxB (by intro h9;first|omega|(have h8:f=false:=Oa;rw[h8] at h9;cases h9))) rfl ?_
 rintro _ _ ⟨ok223,q211,b212,o213,cs214,cap215,xs216,n217,rfl,hg218,hc219,hp220,hl221,hx222,rfl⟩
 refine Ya ?_
 refine Y3 ?_
 refine Yy (y_notB rfl rfl) ?_
 refine Zn ?_
 refine G.cond rfl (fun h224=>?_) (fun h224=>?_)
 refine Y5 ?_
 refine Zn (G.ret ?_)
 repeat first|refine ZR ?_|refine ZB ?_
 exact ret1 [] rfl rfl rfl (⟨rfl,rfl⟩)
 refine Z7 (G.seq ?_)
 have hokd:ok223=true:=by cases hq:ok223<;>simp_all
 have hTx:=hx222 hokd
 refine YG ?_
 refine Yy (Zlen un_22) ?_
 refine Zcp [] [2,0] (k_HuffDecode f q141 b142 o143 cs144 cap145 xs146 n147 hg148 hc149 hp150 hl151 q211 b212 o213 cs214 cap215 xs216 n217 hg218 hc219 hp220 hl221 xs204 n205 hl209 xs133 L la hHW hWh hTC hTbB Om Om hTx (by intro h9;first|omega|(have h8:f=false:=Oa;rw[h8] at h9;cases h9))) rfl ?_
 rintro _ _ ⟨q225,b226,o227,cs228,cap229,rfl,hg230,hc231,hp232,rfl⟩
 refine Ya ?_
 refine Y2 ?_
 refine Zcc [] [0,2] (c_eq (⟨b226,o227,cs228,none⟩) q225 xs204.length cap229 0 xs204 (Rd.ofGN hg230 hc231 hp232) (⟨b200,o201,cs202,none⟩) q199 n205 cap203 0 xs204 (Rd.ofGN hg206 hc207 hp208) Om) rfl ?_
 refine Ya ?_
 refine Zn (G.ret ?_)
 repeat first|refine ZR ?_|refine ZB ?_
 exact ret1 [] rfl rfl rfl (⟨congrArg Value.bool (decide_eq_true rfl),rfl⟩)
end Go.Proofs.YtplgbfkpeampgaaGreatDoor
