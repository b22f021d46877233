/- Walks (printed by a program of my own). -/
import Derived.Test.YtplgbfkpeampgaaGreatDoorQ1
set_option linter.unusedVariables false
set_option linter.unusedSimpArgs false
set_option maxRecDepth 100000
namespace Go.Proofs.YtplgbfkpeampgaaGreatDoor
open Go
set_option maxHeartbeats 4000000 in
theorem c_fse_decompress (bi so:Nat) (shi:Shp) (xs:List Nat) (ki li ci p:Nat) (hc:li≤ci) (hk:ki+li≤xs.length) (hz:xs.length≤1152921504606846976) (hb:Bytes xs) (bF:Nat) (CN:List Nat) (c0 c1 c2 c3 r0 r1 r2 r4 r5 r7 r10 r13 r14 r15:Value) (bm:Nat) (M0:List Nat) (hM0:M0.length=256) (bH oH:Nat) (shH:Shp) (W0:List Nat) (hW0:W0.length=256) (bt ot tcap:Nat) (sht:Shp) (T:List (Nat × Nat × Nat)) (text A:List Nat) (hT:FseT 6 T text A) (hO:FseOK T) (htl:text.length≤255) (htc:64≤tcap) (hpl:p≤li) (hlen:li-p=(12+fN T A)/8+1) (hv:tailV xs (ki+p) (li-p)=2^(12+fN T A)+((A.getD 0 0*2^6+A.getD 1 0)*2^fN T A+fR T A)):Con Tryz.prog 57 [Vp bF 0] [⟨bF,0,(nats .u32 CN),none⟩,⟨bF,512,[Vs bi (so+ki) li ci,Vh p],none⟩,⟨bF,514,[c0,c1,c2,c3],none⟩,⟨bF,518,[r0,r1,r2,Vs bm 0 256 256,r4,r5,Vs bt ot 64 tcap,r7,Vs bH oH 0 256,Vh 255,r10,Va 6,.bool false,r13,r14,r15],none⟩,⟨bm,0,(nats .u8 M0),none⟩,⟨bH,oH,(nats .u8 W0),shH⟩] [⟨bt,ot,(rows fD T),sht⟩,⟨bi,so,(nats .u8 xs),shi⟩] (fun v l'=>∃W',v=.nilIface∧W'.length=256∧W'.take text.length=text∧l'=[⟨bF,0,(nats .u32 CN),none⟩,⟨bF,518,[r0,r1,r2,Vs bm 0 256 256,r4,r5,Vs bt ot 64 tcap,r7,Vs bH oH text.length 256,Vh 255,r10,Va 6,.bool false,r13,r14,r15],none⟩,⟨bH,oH,(nats .u8 W'),shH⟩]):=by
 refine Zi Tryz.func57 rfl fun w0=>?_
 refine Y5 ?_
 refine Z4 ?_
 have h2t:=hT.two
 have hTl64:=hO.len
 obtain⟨hx0,hf1,hf2,hf3,hf4,hf5,hf6,hR0⟩:=RdF.begin hT hb hlen hv
 refine YG ?_
 refine Yy (Zf fo_107_3) ?_
 refine Y3 ?_
 refine Yy (Zf fo_107_2) ?_
 refine Yr (Zla 1 0 ag_95 sz_95) ?_
 refine Zcc [] [7] (c_b_unread bi so shi xs ki li ci Om Om Om p Om) rfl ?_
 refine Zcc [2] [6] (c_f_init bi so shi xs (ki+p) (li-p) (ci-p) Om Om Om Oa Om Oa bF 514 none _ _ _ _) rfl ?_
 refine Ya ?_
 refine Y2 ?_
 refine Yy (y_neNilNil rfl rfl un_52) ?_
 refine Zn (G.condF rfl (Y8 ?_))
 refine Ze (Zal zc_177) fun b1=>?_
 refine Ze (Zal zc_177) fun b2=>?_
 refine Z4 ?_
 refine Zg 512 [y_0,y_1,y_2,y_3,r_4,y_5,y_6,y_7,r_8,e_9] ?_
 refine Ypa ?_
 refine Ypy (Zf fo_107_6) ?_
 refine Ypr (Zl 5 6 ag_105) ?_
 refine Ypy (Zf fo_107_11) ?_
 refine Ypr (Zl 5 11 ag_5) ?_
 refine Zpcc [1,1] [6] (c_d_init bt ot 64 tcap sht T Om b1 0 none _ _ _ (Vs bi (so+(ki+p)) (li-p) (ci-p)) _ bF 514 none (BR.finit xs (ki+p) (li-p)) Oa Om) rfl ?_
 refine GP.nil (GQ.thenN (G.seq ?_))
 refine Zg 512 [y_0,y_1,y_2,y_3,r_4,y_5,y_6,y_7,r_8,e_9] ?_
 refine Ypa ?_
 refine Ypy (Zf fo_107_6) ?_
 refine Ypr (Zl 5 6 ag_105) ?_
 refine Ypy (Zf fo_107_11) ?_
 refine Ypr (Zl 5 11 ag_5) ?_
 refine Zpcc [2,1] [6] (c_d_init bt ot 64 tcap sht T Om b2 0 none _ _ _ (Vs bi (so+(ki+p)) (li-p) (ci-p)) _ bF 514 none (BR.fskip (BR.finit xs (ki+p) (li-p)) 6) Oa Om) rfl ?_
 refine GP.nil (GQ.thenN (G.seq ?_))
 refine G.lists (l':=[⟨b2,0,[Vb (BR.fbits (BR.fskip (BR.finit xs (ki+p) (li-p)) 6) 6),Vp bF 514,Vs bt ot 64 tcap],none⟩,⟨bF,514,[Vs bi (so+(ki+p)) (li-p) (ci-p),Vd ((BR.fskip (BR.fskip (BR.finit xs (ki+p) (li-p)) 6) 6).off),Vd ((BR.fskip (BR.fskip (BR.finit xs (ki+p) (li-p)) 6) 6).val),Va ((BR.fskip (BR.fskip (BR.finit xs (ki+p) (li-p)) 6) 6).rd)],none⟩,⟨b1,0,[Vb (BR.fbits (BR.finit xs (ki+p) (li-p)) 6),Vp bF 514,Vs bt ot 64 tcap],none⟩,⟨bF,0,(nats .u32 CN),none⟩,⟨bF,512,[Vs bi (so+ki) li ci,Vh p],none⟩,⟨bF,518,[r0,r1,r2,Vs bm 0 256 256,r4,r5,Vs bt ot 64 tcap,r7,Vs bH oH 0 256,Vh 255,r10,Va 6,.bool false,r13,r14,r15],none⟩,⟨bm,0,(nats .u8 M0),none⟩,⟨bH,oH,(nats .u8 W0),shH⟩]) rfl ?_
 rw[hf3,hf6]
 obtain⟨s0,hs0⟩:∃z,z=BR.fskip (BR.fskip (BR.finit xs (ki+p) (li-p)) 6) 6:=⟨_,rfl⟩
 rw[←hs0] at hR0 ⊢
 have hks0:=hR0.pos.ok
 have hls0:=hR0.pos.rd
 refine YG ?_
 refine Yy (Zf fo_107_5) ?_
 refine Yy (Zf fo_104_0) ?_
 refine Yr (Zl 5 3 ag_22) ?_
 refine Yy (y_slH (hi:=256) rfl rfl rfl se_22 Om) ?_
 refine Y2 ?_
 refine Y3 ?_
 refine Yy (Zf fo_107_12) ?_
 refine Yr (Zl 5 12 ag_4) ?_
 refine Yy (y_notB rfl rfl) ?_
 refine Zn (G.condT rfl (G.block ?_))
 refine Zo (fun mz ρ l=>∃i:Nat,∃M:List Nat,∃s:BR,mz=text.length-i∧(i+2≤text.length)∧(RdF xs (ki+p) (li-p) T A i s)∧(M.length=256)∧(M.take i=text.take i)∧ρ=[(0,Vp bF 0),(3,Vp bF 514),(5,Vp b1 0),(6,Vp b2 0),(7,Vs bm 0 256 256),(8,Va i)]∧l=[⟨b2,0,[Vb (A.getD (i+1) 0),Vp bF 514,Vs bt ot 64 tcap],none⟩,⟨bF,514,[Vs bi (so+(ki+p)) (li-p) (ci-p),Vd s.off,Vd s.val,Va s.rd],none⟩,⟨b1,0,[Vb (A.getD i 0),Vp bF 514,Vs bt ot 64 tcap],none⟩,⟨bF,0,(nats .u32 CN),none⟩,⟨bF,512,[Vs bi (so+ki) li ci,Vh p],none⟩,⟨bF,518,[r0,r1,r2,Vs bm 0 256 256,r4,r5,Vs bt ot 64 tcap,r7,Vs bH oH 0 256,Vh 255,r10,Va 6,.bool false,r13,r14,r15],none⟩,⟨bm,0,(nats .u8 M),none⟩,⟨bH,oH,(nats .u8 W0),shH⟩]) ⟨0,M0,s0,rfl,Om,hR0,hM0,rfl,rfl,rfl⟩ ?_
 rintro _ _ _ ⟨i,M,s,rfl,hi,hR,hMl,hMt,rfl,rfl⟩
 have hks:=hR.pos.ok
 have hls:=hR.pos.rd
 refine Y6 ?_
 refine Yy (Zf fo_98_1) ?_
 refine Yr (Zl 1 1 ag_39) ?_
 refine Yy (Zge s.off 8) ?_
 refine Zn ?_
 refine Zc (fun h8=>?_) (fun h8=>?_)
 refine Z7 (G.block (Y5 ?_))
 refine Zcp [1] [8] (Con.some' (fun s'=>RdF xs (ki+p) (li-p) T A (i) s'∧s'.rd≤32∧s.off≤s'.off+4∧s'.off≤s.off) (c_f_fillFast bi so shi xs (ki+p) (li-p) (ci-p) Om Om Om bF 514 none s Oa Oa Om Om) (hR.ffast hb Om)) rfl ?_
 rintro _ _ ⟨rfl,s3,⟨hR4,hfs3,hos3,hqs3⟩,rfl⟩
 have hks3:=hR4.pos.ok
 have hls3:=hR4.pos.rd
 refine Y2 ?_
 refine Yy (ZaddNa i 0) ?_
 have hm7:=hR4.more hT Om
 refine Zcp [2,0] [6] (k_nextFast hT hO hb hR4 hm7 Om) rfl ?_
 rintro _ _ ⟨rfl,s5,hR6,hfs5,hos5,rfl⟩
 have hks5:=hR6.pos.ok
 have hls5:=hR6.pos.rd
 have hR6:RdF xs (ki+p) (li-p) T A (i+1) s5:=hR6
 refine Yy (Zx (i+0) (i+0) se_22) ?_
 refine Ys (Zsu 6 (i+0) sz_5) ?_
 refine Y2 ?_
 refine Yy (ZaddNa i 1) ?_
 have hm10:=hR6.more hT Om
 refine Zcp [2,1] [6] (k_nextFast hT hO hb hR6 hm10 Om) rfl ?_
 rintro _ _ ⟨rfl,s8,hR9,hfs8,hos8,rfl⟩
 have hks8:=hR9.pos.ok
 have hls8:=hR9.pos.rd
 have hR9:RdF xs (ki+p) (li-p) T A (i+2) s8:=hR9
 refine Yy (Zx (i+1) (i+1) se_22) ?_
 refine Ys (Zsu 6 (i+1) sz_5) ?_
 refine Y2 ?_
 refine Zcp [1] [8] (Con.some' (fun s'=>RdF xs (ki+p) (li-p) T A (i+2) s'∧s'.rd≤32∧s8.off≤s'.off+4∧s'.off≤s8.off) (c_f_fillFast bi so shi xs (ki+p) (li-p) (ci-p) Om Om Om bF 514 none s8 Oa Oa Om Om) (hR9.ffast hb Om)) rfl ?_
 rintro _ _ ⟨rfl,s11,⟨hR12,hfs11,hos11,hqs11⟩,rfl⟩
 have hks11:=hR12.pos.ok
 have hls11:=hR12.pos.rd
 refine Y2 ?_
 refine Yy (ZaddNa i 2) ?_
 have hm15:=hR12.more hT Om
 refine Zcp [2,0] [6] (k_nextFast hT hO hb hR12 hm15 Om) rfl ?_
 rintro _ _ ⟨rfl,s13,hR14,hfs13,hos13,rfl⟩
 have hks13:=hR14.pos.ok
 have hls13:=hR14.pos.rd
 have hR14:RdF xs (ki+p) (li-p) T A (i+3) s13:=hR14
 refine Yy (Zx (i+2) (i+2) se_22) ?_
 refine Ys (Zsu 6 (i+2) sz_5) ?_
 refine Y2 ?_
 refine Yy (ZaddNa i 3) ?_
 have hm18:=hR14.more hT Om
 refine Zcp [2,1] [6] (k_nextFast hT hO hb hR14 hm18 Om) rfl ?_
 rintro _ _ ⟨rfl,s16,hR17,hfs16,hos16,rfl⟩
 have hks16:=hR17.pos.ok
 have hls16:=hR17.pos.rd
 have hR17:RdF xs (ki+p) (li-p) T A (i+4) s16:=hR17
 refine Yy (Zx (i+3) (i+3) se_22) ?_
 refine Ys (Zsu 6 (i+3) sz_5) ?_
 refine Y2 ?_
 refine Yy (ZaddNa i 4) ?_
 refine Y2 ?_
 refine Yy (Zeq (i+4) 0) ?_
 refine Zn ?_
 refine Zc (fun h19=>?_) (fun h19=>?_)
 exfalso;omega
 refine G.skip (GQ.blockN ?_)
 exact Zb ⟨(i+4),((((M.set (i+0) (text.getD i 0)).set (i+1) (text.getD (i+1) 0)).set (i+2) (text.getD (i+2) 0)).set (i+3) (text.getD (i+3) 0)),s16,rfl,Om,hR17,(by simp[hMl]),((set4 hMt Om).trans (take4 Om)),rfl,rfl⟩
 refine G.exit (GQ.thenE (GQ.thenE (GQ.blockE (GQ.thenN (G.seq ?_)))))
 refine Zg 2304 [y_0,y_1,y_2,y_3,r_4,y_5,y_6,y_7,e_8,y_9,y_10,e_11] ?_
 refine Ypa ?_
 refine Ypy (Zf fo_107_8) ?_
 refine Ypr (Zl 5 8 ag_22) ?_
 refine Ypy (y_slH (hi:=i) rfl rfl rfl se_22 Om) ?_
 obtain⟨W20,hW20⟩:∃z,z=splN W0 (0+0) (M.take i):=⟨_,rfl⟩
 refine GP.eff (e_appIn (W:=W0) (ys:=M.take i) (k:=.u8) 7 0 rfl rfl rfl rfl el_22 rfl rfl rfl ⟨rfl,Om⟩ (Src.ofL 6 0 rfl (by first|rfl|(congr 2;omega)) (nats_src M 0 i)) ⟨Om,by first|rfl|omega|(simp;omega)⟩ rfl rfl) rfl rfl ?_
 rintro _ _ ⟨rfl,rfl⟩
 rw[←hW20]
 have hlW20:W20.length=256:=by rw[hW20,splN_length Oz];exact hW0
 have htW20:W20.take i=text.take i:=by rw[hW20];exact out0 hMt Om Om
 refine Ypa ?_
 refine Ypy (Zf fo_107_8) ?_
 refine Yps (Zst 5 8 sz_22) ?_
 refine GP.nil (GQ.thenN (G.seq (G.block ?_)))
 refine Zo (fun mz ρ l=>∃W:List Nat,∃j:Nat,∃s:BR,mz=text.length-j∧(j+2≤text.length)∧(RdF xs (ki+p) (li-p) T A j s)∧(W.length=256)∧(W.take j=text.take j)∧ρ=[(0,Vp bF 0),(3,Vp bF 514),(5,Vp b1 0),(6,Vp b2 0)]∧l=[⟨b2,0,[Vb (A.getD (j+1) 0),Vp bF 514,Vs bt ot 64 tcap],none⟩,⟨bF,514,[Vs bi (so+(ki+p)) (li-p) (ci-p),Vd s.off,Vd s.val,Va s.rd],none⟩,⟨b1,0,[Vb (A.getD j 0),Vp bF 514,Vs bt ot 64 tcap],none⟩,⟨bF,0,(nats .u32 CN),none⟩,⟨bF,512,[Vs bi (so+ki) li ci,Vh p],none⟩,⟨bF,518,[r0,r1,r2,Vs bm 0 256 256,r4,r5,Vs bt ot 64 tcap,r7,Vs bH oH (0+j) 256,Vh 255,r10,Va 6,.bool false,r13,r14,r15],none⟩,⟨bm,0,(nats .u8 M),none⟩,⟨bH,oH,(nats .u8 W),shH⟩]) ⟨W20,i,s,rfl,Om,hR,hlW20,htW20,rfl,rfl⟩ ?_
 rintro _ _ _ ⟨W,j,s,rfl,hj,hR,hlW,htW,rfl,rfl⟩
 have hks:=hR.pos.ok
 have hls:=hR.pos.rd
 refine G.block (Y6 ?_)
 refine Zcc [2,1] [6] (k_finished hT hO hR) rfl ?_
 refine Zn ?_
 refine Zc (fun h21=>?_) (fun h21=>?_)
 refine G.seq ?_
 refine Zh 2544 (YS 0 (YS 1 (YS 2 (YS 3 (YE 4 (YE 5 (YE 6 (YF 7 (YF 8 (YS 9 (YS 10 (YF 11 .nil))))) .stop) .stop) (YE 5 (YE 4 (YE 6 (YF 7 (YF 8 (YS 9 (YS 10 (YF 11 .nil))))) .stop) (YE 6 (YE 4 (YF 7 (YF 8 (YS 9 (YS 10 (YF 11 .nil))))) (YE 7 (YF 4 (YF 8 (YS 9 (YS 10 (YF 11 .nil))))) .stop)) .stop)) .stop)))))) ?_
 refine Yta ?_
 refine Yty (Zf fo_107_8) ?_
 refine Ytx (Zl 5 8 ag_22) ?_ ?_
 refine Ztcc [0,0] [6] (k_final (i:=j) hT hO hR Om) rfl ?_ GT.stop
 refine Ztcc [2,1] [6] (k_final (i:=j+1) hT hO hR Om) rfl ?_ GT.stop
 refine GT.eff (e_bs (ps:=[(0,.tmp 176),(1,.tmp 177)]) (pv:=[(0,Va (text.getD j 0)),(1,Va (text.getD (j+1) 0))]) (vs:=[Va (text.getD j 0),Va (text.getD (j+1) 0)]) 1 rfl ⟨rfl,rfl⟩ el_22 Od Ov rfl rfl) rfl rfl ?_ GT.stop
 rintro _ _ ⟨b22,rfl,rfl⟩
 obtain⟨W23,hW23⟩:∃z,z=splN W (0+(0+j)) [text.getD j 0,text.getD (j+1) 0]:=⟨_,rfl⟩
 refine GT.eff (e_appIn (W:=W) (ys:=[text.getD j 0,text.getD (j+1) 0]) (k:=.u8) 8 0 rfl rfl rfl rfl el_22 rfl rfl rfl ⟨rfl,Om⟩ (Src.ofL 0 0 rfl rfl rfl) ⟨Om,by first|rfl|omega|(simp;omega)⟩ rfl rfl) rfl rfl ?_ GT.stop
 rintro _ _ ⟨rfl,rfl⟩
 rw[←hW23]
 have hlW23:W23.length=256:=by rw[hW23,splN_length Oz];exact hlW
 have htW23:W23.take text.length=text:=by rw[hW23];simp only[Nat.zero_add];exact out2 htW Om Om
 refine Yta ?_
 refine Yty (Zf fo_107_8) ?_
 refine Ytt (Zst 6 8 sz_22) ?_
 refine GT.nil (GQ.thenN (G.exit (GQ.thenE (GQ.blockO rfl (GQ.thenE (GQ.blockE (GQ.thenN (Y5 ?_))))))))
 refine Zcc [2] [] (c_f_close (Vs bi (so+(ki+p)) (li-p) (ci-p)) _ bF 514 none s Oa Om) rfl ?_
 refine Ya ?_
 refine Zn (G.ret ?_)
 repeat first|refine ZR ?_|refine ZB ?_
 exact ret1 [4,5,6] rfl rfl rfl (⟨W23,rfl,hlW23,htW23,by rw[show text.length=(0+j)+2 by omega];rfl⟩)
 refine Ztcc [0,0] [6] (k_final (i:=j) hT hO hR Om) rfl ?_ GT.stop
 refine Ytx (Zl 5 8 ag_22) ?_ ?_
 refine Ztcc [2,1] [6] (k_final (i:=j+1) hT hO hR Om) rfl ?_ GT.stop
 refine GT.eff (e_bs (ps:=[(0,.tmp 176),(1,.tmp 177)]) (pv:=[(0,Va (text.getD j 0)),(1,Va (text.getD (j+1) 0))]) (vs:=[Va (text.getD j 0),Va (text.getD (j+1) 0)]) 1 rfl ⟨rfl,rfl⟩ el_22 Od Ov rfl rfl) rfl rfl ?_ GT.stop
 rintro _ _ ⟨b24,rfl,rfl⟩
 obtain⟨W25,hW25⟩:∃z,z=splN W (0+(0+j)) [text.getD j 0,text.getD (j+1) 0]:=⟨_,rfl⟩
 refine GT.eff (e_appIn (W:=W) (ys:=[text.getD j 0,text.getD (j+1) 0]) (k:=.u8) 8 0 rfl rfl rfl rfl el_22 rfl rfl rfl ⟨rfl,Om⟩ (Src.ofL 0 0 rfl rfl rfl) ⟨Om,by first|rfl|omega|(simp;omega)⟩ rfl rfl) rfl rfl ?_ GT.stop
 rintro _ _ ⟨rfl,rfl⟩
 rw[←hW25]
 have hlW25:W25.length=256:=by rw[hW25,splN_length Oz];exact hlW
 have htW25:W25.take text.length=text:=by rw[hW25];simp only[Nat.zero_add];exact out2 htW Om Om
 refine Yta ?_
 refine Yty (Zf fo_107_8) ?_
 refine Ytt (Zst 6 8 sz_22) ?_
 refine GT.nil (GQ.thenN (G.exit (GQ.thenE (GQ.blockO rfl (GQ.thenE (GQ.blockE (GQ.thenN (Y5 ?_))))))))
 refine Zcc [2] [] (c_f_close (Vs bi (so+(ki+p)) (li-p) (ci-p)) _ bF 514 none s Oa Om) rfl ?_
 refine Ya ?_
 refine Zn (G.ret ?_)
 repeat first|refine ZR ?_|refine ZB ?_
 exact ret1 [4,5,6] rfl rfl rfl (⟨W25,rfl,hlW25,htW25,by rw[show text.length=(0+j)+2 by omega];rfl⟩)
 refine Ztcc [2,1] [6] (k_final (i:=j+1) hT hO hR Om) rfl ?_ GT.stop
 refine Ytx (Zl 5 8 ag_22) ?_ ?_
 refine GT.eff (e_bs (ps:=[(0,.tmp 176),(1,.tmp 177)]) (pv:=[(0,Va (text.getD j 0)),(1,Va (text.getD (j+1) 0))]) (vs:=[Va (text.getD j 0),Va (text.getD (j+1) 0)]) 1 rfl ⟨rfl,rfl⟩ el_22 Od Ov rfl rfl) rfl rfl ?_ GT.stop
 rintro _ _ ⟨b26,rfl,rfl⟩
 obtain⟨W27,hW27⟩:∃z,z=splN W (0+(0+j)) [text.getD j 0,text.getD (j+1) 0]:=⟨_,rfl⟩
 refine GT.eff (e_appIn (W:=W) (ys:=[text.getD j 0,text.getD (j+1) 0]) (k:=.u8) 8 0 rfl rfl rfl rfl el_22 rfl rfl rfl ⟨rfl,Om⟩ (Src.ofL 0 0 rfl rfl rfl) ⟨Om,by first|rfl|omega|(simp;omega)⟩ rfl rfl) rfl rfl ?_ GT.stop
 rintro _ _ ⟨rfl,rfl⟩
 rw[←hW27]
 have hlW27:W27.length=256:=by rw[hW27,splN_length Oz];exact hlW
 have htW27:W27.take text.length=text:=by rw[hW27];simp only[Nat.zero_add];exact out2 htW Om Om
 refine Yta ?_
 refine Yty (Zf fo_107_8) ?_
 refine Ytt (Zst 6 8 sz_22) ?_
 refine GT.nil (GQ.thenN (G.exit (GQ.thenE (GQ.blockO rfl (GQ.thenE (GQ.blockE (GQ.thenN (Y5 ?_))))))))
 refine Zcc [2] [] (c_f_close (Vs bi (so+(ki+p)) (li-p) (ci-p)) _ bF 514 none s Oa Om) rfl ?_
 refine Ya ?_
 refine Zn (G.ret ?_)
 repeat first|refine ZR ?_|refine ZB ?_
 exact ret1 [4,5,6] rfl rfl rfl (⟨W27,rfl,hlW27,htW27,by rw[show text.length=(0+j)+2 by omega];rfl⟩)
 refine GT.eff (e_bs (ps:=[(0,.tmp 176),(1,.tmp 177)]) (pv:=[(0,Va (text.getD j 0)),(1,Va (text.getD (j+1) 0))]) (vs:=[Va (text.getD j 0),Va (text.getD (j+1) 0)]) 1 rfl ⟨rfl,rfl⟩ el_22 Od Ov rfl rfl) rfl rfl ?_ GT.stop
 rintro _ _ ⟨b28,rfl,rfl⟩
 refine Ytu (Zl 6 8 ag_22) ?_
 obtain⟨W29,hW29⟩:∃z,z=splN W (0+(0+j)) [text.getD j 0,text.getD (j+1) 0]:=⟨_,rfl⟩
 refine GT.eff (e_appIn (W:=W) (ys:=[text.getD j 0,text.getD (j+1) 0]) (k:=.u8) 8 0 rfl rfl rfl rfl el_22 rfl rfl rfl ⟨rfl,Om⟩ (Src.ofL 0 0 rfl rfl rfl) ⟨Om,by first|rfl|omega|(simp;omega)⟩ rfl rfl) rfl rfl ?_ GT.stop
 rintro _ _ ⟨rfl,rfl⟩
 rw[←hW29]
 have hlW29:W29.length=256:=by rw[hW29,splN_length Oz];exact hlW
 have htW29:W29.take text.length=text:=by rw[hW29];simp only[Nat.zero_add];exact out2 htW Om Om
 refine Yta ?_
 refine Yty (Zf fo_107_8) ?_
 refine Ytt (Zst 6 8 sz_22) ?_
 refine GT.nil (GQ.thenN (G.exit (GQ.thenE (GQ.blockO rfl (GQ.thenE (GQ.blockE (GQ.thenN (Y5 ?_))))))))
 refine Zcc [2] [] (c_f_close (Vs bi (so+(ki+p)) (li-p) (ci-p)) _ bF 514 none s Oa Om) rfl ?_
 refine Ya ?_
 refine Zn (G.ret ?_)
 repeat first|refine ZR ?_|refine ZB ?_
 exact ret1 [4,5,6] rfl rfl rfl (⟨W29,rfl,hlW29,htW29,by rw[show text.length=(0+j)+2 by omega];rfl⟩)
 refine Y8 ?_
 refine Zcp [1] [8] (Con.some' (fun s'=>RdF xs (ki+p) (li-p) T A (j) s'∧(s'.rd≤32∨s'.off=0)∧s'.off≤s.off) (c_f_fill bi so shi xs (ki+p) (li-p) (ci-p) Om Om Om bF 514 none s Oa Oa Om Om) (hR.ffill hb)) rfl ?_
 rintro _ _ ⟨rfl,s30,⟨hR31,hfs30,hos30⟩,rfl⟩
 have hks30:=hR31.pos.ok
 have hls30:=hR31.pos.rd
 refine Z4 ?_
 refine Zh 1264 (YS 0 (YS 1 (YS 2 (YS 3 (YE 4 (YE 5 (YF 6 (YF 7 (YS 8 (YS 9 (YF 10 .nil))))) .stop) (YE 5 (YE 4 (YF 6 (YF 7 (YS 8 (YS 9 (YF 10 .nil))))) (YE 6 (YF 4 (YF 7 (YS 8 (YS 9 (YF 10 .nil))))) .stop)) .stop)))))) ?_
 refine Yta ?_
 refine Yty (Zf fo_107_8) ?_
 refine Ytx (Zl 5 8 ag_22) ?_ ?_
 refine Ztcp [1,0] [6] (k_next hT hO hb hR31 Om Om) rfl ?_ GT.stop
 rintro _ _ ⟨rfl,s32,hR33,hfs32,hos32,rfl⟩
 have hks32:=hR33.pos.ok
 have hls32:=hR33.pos.rd
 have hR33:RdF xs (ki+p) (li-p) T A (j+1) s32:=hR33
 refine GT.eff (e_bs (ps:=[(0,.tmp 189)]) (pv:=[(0,Va (text.getD j 0))]) (vs:=[Va (text.getD j 0)]) 1 rfl ⟨rfl,rfl⟩ el_22 Od Ov rfl rfl) rfl rfl ?_ GT.stop
 rintro _ _ ⟨b35,rfl,rfl⟩
 obtain⟨W36,hW36⟩:∃z,z=splN W (0+(0+j)) [text.getD j 0]:=⟨_,rfl⟩
 refine GT.eff (e_appIn (W:=W) (ys:=[text.getD j 0]) (k:=.u8) 8 0 rfl rfl rfl rfl el_22 rfl rfl rfl ⟨rfl,Om⟩ (Src.ofL 0 0 rfl rfl rfl) ⟨Om,by first|rfl|omega|(simp;omega)⟩ rfl rfl) rfl rfl ?_ GT.stop
 rintro _ _ ⟨rfl,rfl⟩
 rw[←hW36]
 have hlW36:W36.length=256:=by rw[hW36,splN_length Oz];exact hlW
 have htW36:W36.take (j+1)=text.take (j+1):=by rw[hW36];simp only[Nat.zero_add];exact out1 htW Om Om
 refine Yta ?_
 refine Yty (Zf fo_107_8) ?_
 refine Ytt (Zst 6 8 sz_22) ?_
 refine GT.nil (GQ.thenN (Y6 ?_))
 refine Zcc [3,2] [7] (k_finished hT hO hR33) rfl ?_
 refine Zn ?_
 refine Zc (fun h37=>?_) (fun h37=>?_)
 refine G.seq ?_
 refine Zh 2544 (YS 0 (YS 1 (YS 2 (YS 3 (YE 4 (YE 5 (YE 6 (YF 7 (YF 8 (YS 9 (YS 10 (YF 11 .nil))))) .stop) .stop) (YE 5 (YE 4 (YE 6 (YF 7 (YF 8 (YS 9 (YS 10 (YF 11 .nil))))) .stop) (YE 6 (YE 4 (YF 7 (YF 8 (YS 9 (YS 10 (YF 11 .nil))))) (YE 7 (YF 4 (YF 8 (YS 9 (YS 10 (YF 11 .nil))))) .stop)) .stop)) .stop)))))) ?_
 refine Yta ?_
 refine Yty (Zf fo_107_8) ?_
 refine Ytx (Zl 6 8 ag_22) ?_ ?_
 refine Ztcc [0,0] [7] (k_final (i:=j+1) hT hO hR33 Om) rfl ?_ GT.stop
 refine Ztcc [3,1] [7] (k_final (i:=j+2) hT hO hR33 Om) rfl ?_ GT.stop
 refine GT.eff (e_bs (ps:=[(0,.tmp 200),(1,.tmp 201)]) (pv:=[(0,Va (text.getD (j+1) 0)),(1,Va (text.getD (j+2) 0))]) (vs:=[Va (text.getD (j+1) 0),Va (text.getD (j+2) 0)]) 1 rfl ⟨rfl,rfl⟩ el_22 Od Ov rfl rfl) rfl rfl ?_ GT.stop
 rintro _ _ ⟨b38,rfl,rfl⟩
 obtain⟨W39,hW39⟩:∃z,z=splN W36 (0+((0+j)+1)) [text.getD (j+1) 0,text.getD (j+2) 0]:=⟨_,rfl⟩
 refine GT.eff (e_appIn (W:=W36) (ys:=[text.getD (j+1) 0,text.getD (j+2) 0]) (k:=.u8) 9 0 rfl rfl rfl rfl el_22 rfl rfl rfl ⟨rfl,Om⟩ (Src.ofL 0 0 rfl rfl rfl) ⟨Om,by first|rfl|omega|(simp;omega)⟩ rfl rfl) rfl rfl ?_ GT.stop
 rintro _ _ ⟨rfl,rfl⟩
 rw[←hW39]
 have hlW39:W39.length=256:=by rw[hW39,splN_length Oz];exact hlW36
 have htW39:W39.take text.length=text:=by rw[hW39];simp only[Nat.zero_add];exact out2 htW36 Om Om
 refine Yta ?_
 refine Yty (Zf fo_107_8) ?_
 refine Ytt (Zst 7 8 sz_22) ?_
 refine GT.nil (GQ.thenN (G.exit (GQ.thenE (GQ.blockO rfl (GQ.thenE (GQ.blockE (GQ.thenN (Y5 ?_))))))))
 refine Zcc [2] [] (c_f_close (Vs bi (so+(ki+p)) (li-p) (ci-p)) _ bF 514 none s32 Oa Om) rfl ?_
 refine Ya ?_
 refine Zn (G.ret ?_)
 repeat first|refine ZR ?_|refine ZB ?_
 exact ret1 [5,6,7] rfl rfl rfl (⟨W39,rfl,hlW39,htW39,by rw[show text.length=((0+j)+1)+2 by omega];rfl⟩)
 refine Ztcc [0,0] [7] (k_final (i:=j+1) hT hO hR33 Om) rfl ?_ GT.stop
 refine Ytx (Zl 6 8 ag_22) ?_ ?_
 refine Ztcc [3,1] [7] (k_final (i:=j+2) hT hO hR33 Om) rfl ?_ GT.stop
 refine GT.eff (e_bs (ps:=[(0,.tmp 200),(1,.tmp 201)]) (pv:=[(0,Va (text.getD (j+1) 0)),(1,Va (text.getD (j+2) 0))]) (vs:=[Va (text.getD (j+1) 0),Va (text.getD (j+2) 0)]) 1 rfl ⟨rfl,rfl⟩ el_22 Od Ov rfl rfl) rfl rfl ?_ GT.stop
 rintro _ _ ⟨b40,rfl,rfl⟩
 obtain⟨W41,hW41⟩:∃z,z=splN W36 (0+((0+j)+1)) [text.getD (j+1) 0,text.getD (j+2) 0]:=⟨_,rfl⟩
 refine GT.eff (e_appIn (W:=W36) (ys:=[text.getD (j+1) 0,text.getD (j+2) 0]) (k:=.u8) 9 0 rfl rfl rfl rfl el_22 rfl rfl rfl ⟨rfl,Om⟩ (Src.ofL 0 0 rfl rfl rfl) ⟨Om,by first|rfl|omega|(simp;omega)⟩ rfl rfl) rfl rfl ?_ GT.stop
 rintro _ _ ⟨rfl,rfl⟩
 rw[←hW41]
 have hlW41:W41.length=256:=by rw[hW41,splN_length Oz];exact hlW36
 have htW41:W41.take text.length=text:=by rw[hW41];simp only[Nat.zero_add];exact out2 htW36 Om Om
 refine Yta ?_
 refine Yty (Zf fo_107_8) ?_
 refine Ytt (Zst 7 8 sz_22) ?_
 refine GT.nil (GQ.thenN (G.exit (GQ.thenE (GQ.blockO rfl (GQ.thenE (GQ.blockE (GQ.thenN (Y5 ?_))))))))
 refine Zcc [2] [] (c_f_close (Vs bi (so+(ki+p)) (li-p) (ci-p)) _ bF 514 none s32 Oa Om) rfl ?_
 refine Ya ?_
 refine Zn (G.ret ?_)
 repeat first|refine ZR ?_|refine ZB ?_
 exact ret1 [5,6,7] rfl rfl rfl (⟨W41,rfl,hlW41,htW41,by rw[show text.length=((0+j)+1)+2 by omega];rfl⟩)
 refine Ztcc [3,1] [7] (k_final (i:=j+2) hT hO hR33 Om) rfl ?_ GT.stop
 refine Ytx (Zl 6 8 ag_22) ?_ ?_
 refine GT.eff (e_bs (ps:=[(0,.tmp 200),(1,.tmp 201)]) (pv:=[(0,Va (text.getD (j+1) 0)),(1,Va (text.getD (j+2) 0))]) (vs:=[Va (text.getD (j+1) 0),Va (text.getD (j+2) 0)]) 1 rfl ⟨rfl,rfl⟩ el_22 Od Ov rfl rfl) rfl rfl ?_ GT.stop
 rintro _ _ ⟨b42,rfl,rfl⟩
 obtain⟨W43,hW43⟩:∃z,z=splN W36 (0+((0+j)+1)) [text.getD (j+1) 0,text.getD (j+2) 0]:=⟨_,rfl⟩
 refine GT.eff (e_appIn (W:=W36) (ys:=[text.getD (j+1) 0,text.getD (j+2) 0]) (k:=.u8) 9 0 rfl rfl rfl rfl el_22 rfl rfl rfl ⟨rfl,Om⟩ (Src.ofL 0 0 rfl rfl rfl) ⟨Om,by first|rfl|omega|(simp;omega)⟩ rfl rfl) rfl rfl ?_ GT.stop
 rintro _ _ ⟨rfl,rfl⟩
 rw[←hW43]
 have hlW43:W43.length=256:=by rw[hW43,splN_length Oz];exact hlW36
 have htW43:W43.take text.length=text:=by rw[hW43];simp only[Nat.zero_add];exact out2 htW36 Om Om
 refine Yta ?_
 refine Yty (Zf fo_107_8) ?_
 refine Ytt (Zst 7 8 sz_22) ?_
 refine GT.nil (GQ.thenN (G.exit (GQ.thenE (GQ.blockO rfl (GQ.thenE (GQ.blockE (GQ.thenN (Y5 ?_))))))))
 refine Zcc [2] [] (c_f_close (Vs bi (so+(ki+p)) (li-p) (ci-p)) _ bF 514 none s32 Oa Om) rfl ?_
 refine Ya ?_
 refine Zn (G.ret ?_)
 repeat first|refine ZR ?_|refine ZB ?_
 exact ret1 [5,6,7] rfl rfl rfl (⟨W43,rfl,hlW43,htW43,by rw[show text.length=((0+j)+1)+2 by omega];rfl⟩)
 refine GT.eff (e_bs (ps:=[(0,.tmp 200),(1,.tmp 201)]) (pv:=[(0,Va (text.getD (j+1) 0)),(1,Va (text.getD (j+2) 0))]) (vs:=[Va (text.getD (j+1) 0),Va (text.getD (j+2) 0)]) 1 rfl ⟨rfl,rfl⟩ el_22 Od Ov rfl rfl) rfl rfl ?_ GT.stop
 rintro _ _ ⟨b44,rfl,rfl⟩
 refine Ytu (Zl 7 8 ag_22) ?_
 obtain⟨W45,hW45⟩:∃z,z=splN W36 (0+((0+j)+1)) [text.getD (j+1) 0,text.getD (j+2) 0]:=⟨_,rfl⟩
 refine GT.eff (e_appIn (W:=W36) (ys:=[text.getD (j+1) 0,text.getD (j+2) 0]) (k:=.u8) 9 0 rfl rfl rfl rfl el_22 rfl rfl rfl ⟨rfl,Om⟩ (Src.ofL 0 0 rfl rfl rfl) ⟨Om,by first|rfl|omega|(simp;omega)⟩ rfl rfl) rfl rfl ?_ GT.stop
 rintro _ _ ⟨rfl,rfl⟩
 rw[←hW45]
 have hlW45:W45.length=256:=by rw[hW45,splN_length Oz];exact hlW36
 have htW45:W45.take text.length=text:=by rw[hW45];simp only[Nat.zero_add];exact out2 htW36 Om Om
 refine Yta ?_
 refine Yty (Zf fo_107_8) ?_
 refine Ytt (Zst 7 8 sz_22) ?_
 refine GT.nil (GQ.thenN (G.exit (GQ.thenE (GQ.blockO rfl (GQ.thenE (GQ.blockE (GQ.thenN (Y5 ?_))))))))
 refine Zcc [2] [] (c_f_close (Vs bi (so+(ki+p)) (li-p) (ci-p)) _ bF 514 none s32 Oa Om) rfl ?_
 refine Ya ?_
 refine Zn (G.ret ?_)
 repeat first|refine ZR ?_|refine ZB ?_
 exact ret1 [5,6,7] rfl rfl rfl (⟨W45,rfl,hlW45,htW45,by rw[show text.length=((0+j)+1)+2 by omega];rfl⟩)
 refine Z7 (G.seq ?_)
 refine Zh 1264 (YS 0 (YS 1 (YS 2 (YS 3 (YE 4 (YE 5 (YF 6 (YF 7 (YS 8 (YS 9 (YF 10 .nil))))) .stop) (YE 5 (YE 4 (YF 6 (YF 7 (YS 8 (YS 9 (YF 10 .nil))))) (YE 6 (YF 4 (YF 7 (YS 8 (YS 9 (YF 10 .nil))))) .stop)) .stop)))))) ?_
 refine Yta ?_
 refine Yty (Zf fo_107_8) ?_
 refine Ytx (Zl 6 8 ag_22) ?_ ?_
 refine Ztcp [0,0] [7] (k_next hT hO hb hR33 Om Om) rfl ?_ GT.stop
 rintro _ _ ⟨rfl,s46,hR47,hfs46,hos46,rfl⟩
 have hks46:=hR47.pos.ok
 have hls46:=hR47.pos.rd
 have hR47:RdF xs (ki+p) (li-p) T A (j+2) s46:=hR47
 refine GT.eff (e_bs (ps:=[(0,.tmp 211)]) (pv:=[(0,Va (text.getD (j+1) 0))]) (vs:=[Va (text.getD (j+1) 0)]) 1 rfl ⟨rfl,rfl⟩ el_22 Od Ov rfl rfl) rfl rfl ?_ GT.stop
 rintro _ _ ⟨b49,rfl,rfl⟩
 obtain⟨W50,hW50⟩:∃z,z=splN W36 (0+((0+j)+1)) [text.getD (j+1) 0]:=⟨_,rfl⟩
 refine GT.eff (e_appIn (W:=W36) (ys:=[text.getD (j+1) 0]) (k:=.u8) 9 0 rfl rfl rfl rfl el_22 rfl rfl rfl ⟨rfl,Om⟩ (Src.ofL 0 0 rfl rfl rfl) ⟨Om,by first|rfl|omega|(simp;omega)⟩ rfl rfl) rfl rfl ?_ GT.stop
 rintro _ _ ⟨rfl,rfl⟩
 rw[←hW50]
 have hlW50:W50.length=256:=by rw[hW50,splN_length Oz];exact hlW36
 have htW50:W50.take ((j+1)+1)=text.take ((j+1)+1):=by rw[hW50];simp only[Nat.zero_add];exact out1 htW36 Om Om
 refine Yta ?_
 refine Yty (Zf fo_107_8) ?_
 refine Ytt (Zst 7 8 sz_22) ?_
 refine GT.nil (GQ.thenN (G.seq ?_))
 refine Zg 0 [y_0,y_1,y_2,r_3,y_4,y_5,y_6,y_7,r_8,y_9] ?_
 refine Ypa ?_
 refine Ypy (Zf fo_107_8) ?_
 refine Ypr (Zl 7 8 ag_22) ?_
 refine Ypy (Zlen un_22) ?_
 refine Ypy (Zf fo_107_9) ?_
 refine Ypr (Zl 7 9 ag_3) ?_
 refine Ypy (Zge (((0+j)+1)+1) 255) ?_
 refine GP.nil (GQ.thenN ?_)
 refine Zc (fun h51=>?_) (fun h51=>?_)
 exfalso;omega
 refine G.skip (GQ.blockN ?_)
 refine GQ.pick [1,1,2,2,2,2,2,2] rfl ?_
 exact Zb ⟨W50,j+2,s46,rfl,Om,hR47,hlW50,htW50,rfl,rfl⟩
 refine Ztcp [0,0] [7] (k_next hT hO hb hR33 Om Om) rfl ?_ GT.stop
 rintro _ _ ⟨rfl,s52,hR53,hfs52,hos52,rfl⟩
 have hks52:=hR53.pos.ok
 have hls52:=hR53.pos.rd
 have hR53:RdF xs (ki+p) (li-p) T A (j+2) s52:=hR53
 refine Ytx (Zl 6 8 ag_22) ?_ ?_
 refine GT.eff (e_bs (ps:=[(0,.tmp 211)]) (pv:=[(0,Va (text.getD (j+1) 0))]) (vs:=[Va (text.getD (j+1) 0)]) 1 rfl ⟨rfl,rfl⟩ el_22 Od Ov rfl rfl) rfl rfl ?_ GT.stop
 rintro _ _ ⟨b55,rfl,rfl⟩
 obtain⟨W56,hW56⟩:∃z,z=splN W36 (0+((0+j)+1)) [text.getD (j+1) 0]:=⟨_,rfl⟩
 refine GT.eff (e_appIn (W:=W36) (ys:=[text.getD (j+1) 0]) (k:=.u8) 9 0 rfl rfl rfl rfl el_22 rfl rfl rfl ⟨rfl,Om⟩ (Src.ofL 0 0 rfl rfl rfl) ⟨Om,by first|rfl|omega|(simp;omega)⟩ rfl rfl) rfl rfl ?_ GT.stop
 rintro _ _ ⟨rfl,rfl⟩
 rw[←hW56]
 have hlW56:W56.length=256:=by rw[hW56,splN_length Oz];exact hlW36
 have htW56:W56.take ((j+1)+1)=text.take ((j+1)+1):=by rw[hW56];simp only[Nat.zero_add];exact out1 htW36 Om Om
 refine Yta ?_
 refine Yty (Zf fo_107_8) ?_
 refine Ytt (Zst 7 8 sz_22) ?_
 refine GT.nil (GQ.thenN (G.seq ?_))
 refine Zg 0 [y_0,y_1,y_2,r_3,y_4,y_5,y_6,y_7,r_8,y_9] ?_
 refine Ypa ?_
 refine Ypy (Zf fo_107_8) ?_
 refine Ypr (Zl 7 8 ag_22) ?_
 refine Ypy (Zlen un_22) ?_
 refine Ypy (Zf fo_107_9) ?_
 refine Ypr (Zl 7 9 ag_3) ?_
 refine Ypy (Zge (((0+j)+1)+1) 255) ?_
 refine GP.nil (GQ.thenN ?_)
 refine Zc (fun h57=>?_) (fun h57=>?_)
 exfalso;omega
 refine G.skip (GQ.blockN ?_)
 refine GQ.pick [1,1,2,2,2,2,2,2] rfl ?_
 exact Zb ⟨W56,j+2,s52,rfl,Om,hR53,hlW56,htW56,rfl,rfl⟩
 refine GT.eff (e_bs (ps:=[(0,.tmp 211)]) (pv:=[(0,Va (text.getD (j+1) 0))]) (vs:=[Va (text.getD (j+1) 0)]) 1 rfl ⟨rfl,rfl⟩ el_22 Od Ov rfl rfl) rfl rfl ?_ GT.stop
 rintro _ _ ⟨b58,rfl,rfl⟩
 refine Ytu (Zl 7 8 ag_22) ?_
 obtain⟨W59,hW59⟩:∃z,z=splN W36 (0+((0+j)+1)) [text.getD (j+1) 0]:=⟨_,rfl⟩
 refine GT.eff (e_appIn (W:=W36) (ys:=[text.getD (j+1) 0]) (k:=.u8) 9 0 rfl rfl rfl rfl el_22 rfl rfl rfl ⟨rfl,Om⟩ (Src.ofL 0 0 rfl rfl rfl) ⟨Om,by first|rfl|omega|(simp;omega)⟩ rfl rfl) rfl rfl ?_ GT.stop
 rintro _ _ ⟨rfl,rfl⟩
 rw[←hW59]
 have hlW59:W59.length=256:=by rw[hW59,splN_length Oz];exact hlW36
 have htW59:W59.take ((j+1)+1)=text.take ((j+1)+1):=by rw[hW59];simp only[Nat.zero_add];exact out1 htW36 Om Om
 refine Yta ?_
 refine Yty (Zf fo_107_8) ?_
 refine Ytt (Zst 7 8 sz_22) ?_
 refine GT.nil (GQ.thenN (G.seq ?_))
 refine Zg 0 [y_0,y_1,y_2,r_3,y_4,y_5,y_6,y_7,r_8,y_9] ?_
 refine Ypa ?_
 refine Ypy (Zf fo_107_8) ?_
 refine Ypr (Zl 7 8 ag_22) ?_
 refine Ypy (Zlen un_22) ?_
 refine Ypy (Zf fo_107_9) ?_
 refine Ypr (Zl 7 9 ag_3) ?_
 refine Ypy (Zge (((0+j)+1)+1) 255) ?_
 refine GP.nil (GQ.thenN ?_)
 refine Zc (fun h60=>?_) (fun h60=>?_)
 exfalso;omega
 refine G.skip (GQ.blockN ?_)
 refine GQ.pick [1,1,2,2,2,2,2,2] rfl ?_
 exact Zb ⟨W59,j+2,s52,rfl,Om,hR53,hlW59,htW59,rfl,rfl⟩
 refine Ztcp [1,0] [6] (k_next hT hO hb hR31 Om Om) rfl ?_ GT.stop
 rintro _ _ ⟨rfl,s61,hR62,hfs61,hos61,rfl⟩
 have hks61:=hR62.pos.ok
 have hls61:=hR62.pos.rd
 have hR62:RdF xs (ki+p) (li-p) T A (j+1) s61:=hR62
 refine Ytx (Zl 5 8 ag_22) ?_ ?_
 refine GT.eff (e_bs (ps:=[(0,.tmp 189)]) (pv:=[(0,Va (text.getD j 0))]) (vs:=[Va (text.getD j 0)]) 1 rfl ⟨rfl,rfl⟩ el_22 Od Ov rfl rfl) rfl rfl ?_ GT.stop
 rintro _ _ ⟨b64,rfl,rfl⟩
 obtain⟨W65,hW65⟩:∃z,z=splN W (0+(0+j)) [text.getD j 0]:=⟨_,rfl⟩
 refine GT.eff (e_appIn (W:=W) (ys:=[text.getD j 0]) (k:=.u8) 8 0 rfl rfl rfl rfl el_22 rfl rfl rfl ⟨rfl,Om⟩ (Src.ofL 0 0 rfl rfl rfl) ⟨Om,by first|rfl|omega|(simp;omega)⟩ rfl rfl) rfl rfl ?_ GT.stop
 rintro _ _ ⟨rfl,rfl⟩
 rw[←hW65]
 have hlW65:W65.length=256:=by rw[hW65,splN_length Oz];exact hlW
 have htW65:W65.take (j+1)=text.take (j+1):=by rw[hW65];simp only[Nat.zero_add];exact out1 htW Om Om
 refine Yta ?_
 refine Yty (Zf fo_107_8) ?_
 refine Ytt (Zst 6 8 sz_22) ?_
 refine GT.nil (GQ.thenN (Y6 ?_))
 refine Zcc [3,2] [7] (k_finished hT hO hR62) rfl ?_
 refine Zn ?_
 refine Zc (fun h66=>?_) (fun h66=>?_)
 refine G.seq ?_
 refine Zh 2544 (YS 0 (YS 1 (YS 2 (YS 3 (YE 4 (YE 5 (YE 6 (YF 7 (YF 8 (YS 9 (YS 10 (YF 11 .nil))))) .stop) .stop) (YE 5 (YE 4 (YE 6 (YF 7 (YF 8 (YS 9 (YS 10 (YF 11 .nil))))) .stop) (YE 6 (YE 4 (YF 7 (YF 8 (YS 9 (YS 10 (YF 11 .nil))))) (YE 7 (YF 4 (YF 8 (YS 9 (YS 10 (YF 11 .nil))))) .stop)) .stop)) .stop)))))) ?_
 refine Yta ?_
 refine Yty (Zf fo_107_8) ?_
 refine Ytx (Zl 6 8 ag_22) ?_ ?_
 refine Ztcc [0,0] [7] (k_final (i:=j+1) hT hO hR62 Om) rfl ?_ GT.stop
 refine Ztcc [3,1] [7] (k_final (i:=j+2) hT hO hR62 Om) rfl ?_ GT.stop
 refine GT.eff (e_bs (ps:=[(0,.tmp 200),(1,.tmp 201)]) (pv:=[(0,Va (text.getD (j+1) 0)),(1,Va (text.getD (j+2) 0))]) (vs:=[Va (text.getD (j+1) 0),Va (text.getD (j+2) 0)]) 1 rfl ⟨rfl,rfl⟩ el_22 Od Ov rfl rfl) rfl rfl ?_ GT.stop
 rintro _ _ ⟨b67,rfl,rfl⟩
 obtain⟨W68,hW68⟩:∃z,z=splN W65 (0+((0+j)+1)) [text.getD (j+1) 0,text.getD (j+2) 0]:=⟨_,rfl⟩
 refine GT.eff (e_appIn (W:=W65) (ys:=[text.getD (j+1) 0,text.getD (j+2) 0]) (k:=.u8) 9 0 rfl rfl rfl rfl el_22 rfl rfl rfl ⟨rfl,Om⟩ (Src.ofL 0 0 rfl rfl rfl) ⟨Om,by first|rfl|omega|(simp;omega)⟩ rfl rfl) rfl rfl ?_ GT.stop
 rintro _ _ ⟨rfl,rfl⟩
 rw[←hW68]
 have hlW68:W68.length=256:=by rw[hW68,splN_length Oz];exact hlW65
 have htW68:W68.take text.length=text:=by rw[hW68];simp only[Nat.zero_add];exact out2 htW65 Om Om
 refine Yta ?_
 refine Yty (Zf fo_107_8) ?_
 refine Ytt (Zst 7 8 sz_22) ?_
 refine GT.nil (GQ.thenN (G.exit (GQ.thenE (GQ.blockO rfl (GQ.thenE (GQ.blockE (GQ.thenN (Y5 ?_))))))))
 refine Zcc [2] [] (c_f_close (Vs bi (so+(ki+p)) (li-p) (ci-p)) _ bF 514 none s61 Oa Om) rfl ?_
 refine Ya ?_
 refine Zn (G.ret ?_)
 repeat first|refine ZR ?_|refine ZB ?_
 exact ret1 [5,6,7] rfl rfl rfl (⟨W68,rfl,hlW68,htW68,by rw[show text.length=((0+j)+1)+2 by omega];rfl⟩)
 refine Ztcc [0,0] [7] (k_final (i:=j+1) hT hO hR62 Om) rfl ?_ GT.stop
 refine Ytx (Zl 6 8 ag_22) ?_ ?_
 refine Ztcc [3,1] [7] (k_final (i:=j+2) hT hO hR62 Om) rfl ?_ GT.stop
 refine GT.eff (e_bs (ps:=[(0,.tmp 200),(1,.tmp 201)]) (pv:=[(0,Va (text.getD (j+1) 0)),(1,Va (text.getD (j+2) 0))]) (vs:=[Va (text.getD (j+1) 0),Va (text.getD (j+2) 0)]) 1 rfl ⟨rfl,rfl⟩ el_22 Od Ov rfl rfl) rfl rfl ?_ GT.stop
 rintro _ _ ⟨b69,rfl,rfl⟩
 obtain⟨W70,hW70⟩:∃z,z=splN W65 (0+((0+j)+1)) [text.getD (j+1) 0,text.getD (j+2) 0]:=⟨_,rfl⟩
 refine GT.eff (e_appIn (W:=W65) (ys:=[text.getD (j+1) 0,text.getD (j+2) 0]) (k:=.u8) 9 0 rfl rfl rfl rfl el_22 rfl rfl rfl ⟨rfl,Om⟩ (Src.ofL 0 0 rfl rfl rfl) ⟨Om,by first|rfl|omega|(simp;omega)⟩ rfl rfl) rfl rfl ?_ GT.stop
 rintro _ _ ⟨rfl,rfl⟩
 rw[←hW70]
 have hlW70:W70.length=256:=by rw[hW70,splN_length Oz];exact hlW65
 have htW70:W70.take text.length=text:=by rw[hW70];simp only[Nat.zero_add];exact out2 htW65 Om Om
 refine Yta ?_
 refine Yty (Zf fo_107_8) ?_
 refine Ytt (Zst 7 8 sz_22) ?_
 refine GT.nil (GQ.thenN (G.exit (GQ.thenE (GQ.blockO rfl (GQ.thenE (GQ.blockE (GQ.thenN (Y5 ?_))))))))
 refine Zcc [2] [] (c_f_close (Vs bi (so+(ki+p)) (li-p) (ci-p)) _ bF 514 none s61 Oa Om) rfl ?_
 refine Ya ?_
 refine Zn (G.ret ?_)
 repeat first|refine ZR ?_|refine ZB ?_
 exact ret1 [5,6,7] rfl rfl rfl (⟨W70,rfl,hlW70,htW70,by rw[show text.length=((0+j)+1)+2 by omega];rfl⟩)
 refine Ztcc [3,1] [7] (k_final (i:=j+2) hT hO hR62 Om) rfl ?_ GT.stop
 refine Ytx (Zl 6 8 ag_22) ?_ ?_
 refine GT.eff (e_bs (ps:=[(0,.tmp 200),(1,.tmp 201)]) (pv:=[(0,Va (text.getD (j+1) 0)),(1,Va (text.getD (j+2) 0))]) (vs:=[Va (text.getD (j+1) 0),Va (text.getD (j+2) 0)]) 1 rfl ⟨rfl,rfl⟩ el_22 Od Ov rfl rfl) rfl rfl ?_ GT.stop
 rintro _ _ ⟨b71,rfl,rfl⟩
 obtain⟨W72,hW72⟩:∃z,z=splN W65 (0+((0+j)+1)) [text.getD (j+1) 0,text.getD (j+2) 0]:=⟨_,rfl⟩
 refine GT.eff (e_appIn (W:=W65) (ys:=[text.getD (j+1) 0,text.getD (j+2) 0]) (k:=.u8) 9 0 rfl rfl rfl rfl el_22 rfl rfl rfl ⟨rfl,Om⟩ (Src.ofL 0 0 rfl rfl rfl) ⟨Om,by first|rfl|omega|(simp;omega)⟩ rfl rfl) rfl rfl ?_ GT.stop
 rintro _ _ ⟨rfl,rfl⟩
 rw[←hW72]
 have hlW72:W72.length=256:=by rw[hW72,splN_length Oz];exact hlW65
 have htW72:W72.take text.length=text:=by rw[hW72];simp only[Nat.zero_add];exact out2 htW65 Om Om
 refine Yta ?_
 refine Yty (Zf fo_107_8) ?_
 refine Ytt (Zst 7 8 sz_22) ?_
 refine GT.nil (GQ.thenN (G.exit (GQ.thenE (GQ.blockO rfl (GQ.thenE (GQ.blockE (GQ.thenN (Y5 ?_))))))))
 refine Zcc [2] [] (c_f_close (Vs bi (so+(ki+p)) (li-p) (ci-p)) _ bF 514 none s61 Oa Om) rfl ?_
 refine Ya ?_
 refine Zn (G.ret ?_)
 repeat first|refine ZR ?_|refine ZB ?_
 exact ret1 [5,6,7] rfl rfl rfl (⟨W72,rfl,hlW72,htW72,by rw[show text.length=((0+j)+1)+2 by omega];rfl⟩)
 refine GT.eff (e_bs (ps:=[(0,.tmp 200),(1,.tmp 201)]) (pv:=[(0,Va (text.getD (j+1) 0)),(1,Va (text.getD (j+2) 0))]) (vs:=[Va (text.getD (j+1) 0),Va (text.getD (j+2) 0)]) 1 rfl ⟨rfl,rfl⟩ el_22 Od Ov rfl rfl) rfl rfl ?_ GT.stop
 rintro _ _ ⟨b73,rfl,rfl⟩
 refine Ytu (Zl 7 8 ag_22) ?_
 obtain⟨W74,hW74⟩:∃z,z=splN W65 (0+((0+j)+1)) [text.getD (j+1) 0,text.getD (j+2) 0]:=⟨_,rfl⟩
 refine GT.eff (e_appIn (W:=W65) (ys:=[text.getD (j+1) 0,text.getD (j+2) 0]) (k:=.u8) 9 0 rfl rfl rfl rfl el_22 rfl rfl rfl ⟨rfl,Om⟩ (Src.ofL 0 0 rfl rfl rfl) ⟨Om,by first|rfl|omega|(simp;omega)⟩ rfl rfl) rfl rfl ?_ GT.stop
 rintro _ _ ⟨rfl,rfl⟩
 rw[←hW74]
 have hlW74:W74.length=256:=by rw[hW74,splN_length Oz];exact hlW65
 have htW74:W74.take text.length=text:=by rw[hW74];simp only[Nat.zero_add];exact out2 htW65 Om Om
 refine Yta ?_
 refine Yty (Zf fo_107_8) ?_
 refine Ytt (Zst 7 8 sz_22) ?_
 refine GT.nil (GQ.thenN (G.exit (GQ.thenE (GQ.blockO rfl (GQ.thenE (GQ.blockE (GQ.thenN (Y5 ?_))))))))
 refine Zcc [2] [] (c_f_close (Vs bi (so+(ki+p)) (li-p) (ci-p)) _ bF 514 none s61 Oa Om) rfl ?_
 refine Ya ?_
 refine Zn (G.ret ?_)
 repeat first|refine ZR ?_|refine ZB ?_
 exact ret1 [5,6,7] rfl rfl rfl (⟨W74,rfl,hlW74,htW74,by rw[show text.length=((0+j)+1)+2 by omega];rfl⟩)
 refine Z7 (G.seq ?_)
 refine Zh 1264 (YS 0 (YS 1 (YS 2 (YS 3 (YE 4 (YE 5 (YF 6 (YF 7 (YS 8 (YS 9 (YF 10 .nil))))) .stop) (YE 5 (YE 4 (YF 6 (YF 7 (YS 8 (YS 9 (YF 10 .nil))))) (YE 6 (YF 4 (YF 7 (YS 8 (YS 9 (YF 10 .nil))))) .stop)) .stop)))))) ?_
 refine Yta ?_
 refine Yty (Zf fo_107_8) ?_
 refine Ytx (Zl 6 8 ag_22) ?_ ?_
 refine Ztcp [0,0] [7] (k_next hT hO hb hR62 Om Om) rfl ?_ GT.stop
 rintro _ _ ⟨rfl,s75,hR76,hfs75,hos75,rfl⟩
 have hks75:=hR76.pos.ok
 have hls75:=hR76.pos.rd
 have hR76:RdF xs (ki+p) (li-p) T A (j+2) s75:=hR76
 refine GT.eff (e_bs (ps:=[(0,.tmp 211)]) (pv:=[(0,Va (text.getD (j+1) 0))]) (vs:=[Va (text.getD (j+1) 0)]) 1 rfl ⟨rfl,rfl⟩ el_22 Od Ov rfl rfl) rfl rfl ?_ GT.stop
 rintro _ _ ⟨b78,rfl,rfl⟩
 obtain⟨W79,hW79⟩:∃z,z=splN W65 (0+((0+j)+1)) [text.getD (j+1) 0]:=⟨_,rfl⟩
 refine GT.eff (e_appIn (W:=W65) (ys:=[text.getD (j+1) 0]) (k:=.u8) 9 0 rfl rfl rfl rfl el_22 rfl rfl rfl ⟨rfl,Om⟩ (Src.ofL 0 0 rfl rfl rfl) ⟨Om,by first|rfl|omega|(simp;omega)⟩ rfl rfl) rfl rfl ?_ GT.stop
 rintro _ _ ⟨rfl,rfl⟩
 rw[←hW79]
 have hlW79:W79.length=256:=by rw[hW79,splN_length Oz];exact hlW65
 have htW79:W79.take ((j+1)+1)=text.take ((j+1)+1):=by rw[hW79];simp only[Nat.zero_add];exact out1 htW65 Om Om
 refine Yta ?_
 refine Yty (Zf fo_107_8) ?_
 refine Ytt (Zst 7 8 sz_22) ?_
 refine GT.nil (GQ.thenN (G.seq ?_))
 refine Zg 0 [y_0,y_1,y_2,r_3,y_4,y_5,y_6,y_7,r_8,y_9] ?_
 refine Ypa ?_
 refine Ypy (Zf fo_107_8) ?_
 refine Ypr (Zl 7 8 ag_22) ?_
 refine Ypy (Zlen un_22) ?_
 refine Ypy (Zf fo_107_9) ?_
 refine Ypr (Zl 7 9 ag_3) ?_
 refine Ypy (Zge (((0+j)+1)+1) 255) ?_
 refine GP.nil (GQ.thenN ?_)
 refine Zc (fun h80=>?_) (fun h80=>?_)
 exfalso;omega
 refine G.skip (GQ.blockN ?_)
 refine GQ.pick [1,1,2,2,2,2,2,2] rfl ?_
 exact Zb ⟨W79,j+2,s75,rfl,Om,hR76,hlW79,htW79,rfl,rfl⟩
 refine Ztcp [0,0] [7] (k_next hT hO hb hR62 Om Om) rfl ?_ GT.stop
 rintro _ _ ⟨rfl,s81,hR82,hfs81,hos81,rfl⟩
 have hks81:=hR82.pos.ok
 have hls81:=hR82.pos.rd
 have hR82:RdF xs (ki+p) (li-p) T A (j+2) s81:=hR82
 refine Ytx (Zl 6 8 ag_22) ?_ ?_
 refine GT.eff (e_bs (ps:=[(0,.tmp 211)]) (pv:=[(0,Va (text.getD (j+1) 0))]) (vs:=[Va (text.getD (j+1) 0)]) 1 rfl ⟨rfl,rfl⟩ el_22 Od Ov rfl rfl) rfl rfl ?_ GT.stop
 rintro _ _ ⟨b84,rfl,rfl⟩
 obtain⟨W85,hW85⟩:∃z,z=splN W65 (0+((0+j)+1)) [text.getD (j+1) 0]:=⟨_,rfl⟩
 refine GT.eff (e_appIn (W:=W65) (ys:=[text.getD (j+1) 0]) (k:=.u8) 9 0 rfl rfl rfl rfl el_22 rfl rfl rfl ⟨rfl,Om⟩ (Src.ofL 0 0 rfl rfl rfl) ⟨Om,by first|rfl|omega|(simp;omega)⟩ rfl rfl) rfl rfl ?_ GT.stop
 rintro _ _ ⟨rfl,rfl⟩
 rw[←hW85]
 have hlW85:W85.length=256:=by rw[hW85,splN_length Oz];exact hlW65
 have htW85:W85.take ((j+1)+1)=text.take ((j+1)+1):=by rw[hW85];simp only[Nat.zero_add];exact out1 htW65 Om Om
 refine Yta ?_
 refine Yty (Zf fo_107_8) ?_
 refine Ytt (Zst 7 8 sz_22) ?_
 refine GT.nil (GQ.thenN (G.seq ?_))
 refine Zg 0 [y_0,y_1,y_2,r_3,y_4,y_5,y_6,y_7,r_8,y_9] ?_
 refine Ypa ?_
 refine Ypy (Zf fo_107_8) ?_
 refine Ypr (Zl 7 8 ag_22) ?_
 refine Ypy (Zlen un_22) ?_
 refine Ypy (Zf fo_107_9) ?_
 refine Ypr (Zl 7 9 ag_3) ?_
 refine Ypy (Zge (((0+j)+1)+1) 255) ?_
 refine GP.nil (GQ.thenN ?_)
 refine Zc (fun h86=>?_) (fun h86=>?_)
 exfalso;omega
 refine G.skip (GQ.blockN ?_)
 refine GQ.pick [1,1,2,2,2,2,2,2] rfl ?_
 exact Zb ⟨W85,j+2,s81,rfl,Om,hR82,hlW85,htW85,rfl,rfl⟩
 refine GT.eff (e_bs (ps:=[(0,.tmp 211)]) (pv:=[(0,Va (text.getD (j+1) 0))]) (vs:=[Va (text.getD (j+1) 0)]) 1 rfl ⟨rfl,rfl⟩ el_22 Od Ov rfl rfl) rfl rfl ?_ GT.stop
 rintro _ _ ⟨b87,rfl,rfl⟩
 refine Ytu (Zl 7 8 ag_22) ?_
 obtain⟨W88,hW88⟩:∃z,z=splN W65 (0+((0+j)+1)) [text.getD (j+1) 0]:=⟨_,rfl⟩
 refine GT.eff (e_appIn (W:=W65) (ys:=[text.getD (j+1) 0]) (k:=.u8) 9 0 rfl rfl rfl rfl el_22 rfl rfl rfl ⟨rfl,Om⟩ (Src.ofL 0 0 rfl rfl rfl) ⟨Om,by first|rfl|omega|(simp;omega)⟩ rfl rfl) rfl rfl ?_ GT.stop
 rintro _ _ ⟨rfl,rfl⟩
 rw[←hW88]
 have hlW88:W88.length=256:=by rw[hW88,splN_length Oz];exact hlW65
 have htW88:W88.take ((j+1)+1)=text.take ((j+1)+1):=by rw[hW88];simp only[Nat.zero_add];exact out1 htW65 Om Om
 refine Yta ?_
 refine Yty (Zf fo_107_8) ?_
 refine Ytt (Zst 7 8 sz_22) ?_
 refine GT.nil (GQ.thenN (G.seq ?_))
 refine Zg 0 [y_0,y_1,y_2,r_3,y_4,y_5,y_6,y_7,r_8,y_9] ?_
 refine Ypa ?_
 refine Ypy (Zf fo_107_8) ?_
 refine Ypr (Zl 7 8 ag_22) ?_
 refine Ypy (Zlen un_22) ?_
 refine Ypy (Zf fo_107_9) ?_
 refine Ypr (Zl 7 9 ag_3) ?_
 refine Ypy (Zge (((0+j)+1)+1) 255) ?_
 refine GP.nil (GQ.thenN ?_)
 refine Zc (fun h89=>?_) (fun h89=>?_)
 exfalso;omega
 refine G.skip (GQ.blockN ?_)
 refine GQ.pick [1,1,2,2,2,2,2,2] rfl ?_
 exact Zb ⟨W88,j+2,s81,rfl,Om,hR82,hlW88,htW88,rfl,rfl⟩
 refine GT.eff (e_bs (ps:=[(0,.tmp 189)]) (pv:=[(0,Va (text.getD j 0))]) (vs:=[Va (text.getD j 0)]) 1 rfl ⟨rfl,rfl⟩ el_22 Od Ov rfl rfl) rfl rfl ?_ GT.stop
 rintro _ _ ⟨b90,rfl,rfl⟩
 refine Ytu (Zl 6 8 ag_22) ?_
 obtain⟨W91,hW91⟩:∃z,z=splN W (0+(0+j)) [text.getD j 0]:=⟨_,rfl⟩
 refine GT.eff (e_appIn (W:=W) (ys:=[text.getD j 0]) (k:=.u8) 8 0 rfl rfl rfl rfl el_22 rfl rfl rfl ⟨rfl,Om⟩ (Src.ofL 0 0 rfl rfl rfl) ⟨Om,by first|rfl|omega|(simp;omega)⟩ rfl rfl) rfl rfl ?_ GT.stop
 rintro _ _ ⟨rfl,rfl⟩
 rw[←hW91]
 have hlW91:W91.length=256:=by rw[hW91,splN_length Oz];exact hlW
 have htW91:W91.take (j+1)=text.take (j+1):=by rw[hW91];simp only[Nat.zero_add];exact out1 htW Om Om
 refine Yta ?_
 refine Yty (Zf fo_107_8) ?_
 refine Ytt (Zst 6 8 sz_22) ?_
 refine GT.nil (GQ.thenN (Y6 ?_))
 refine Zcc [3,2] [7] (k_finished hT hO hR62) rfl ?_
 refine Zn ?_
 refine Zc (fun h92=>?_) (fun h92=>?_)
 refine G.seq ?_
 refine Zh 2544 (YS 0 (YS 1 (YS 2 (YS 3 (YE 4 (YE 5 (YE 6 (YF 7 (YF 8 (YS 9 (YS 10 (YF 11 .nil))))) .stop) .stop) (YE 5 (YE 4 (YE 6 (YF 7 (YF 8 (YS 9 (YS 10 (YF 11 .nil))))) .stop) (YE 6 (YE 4 (YF 7 (YF 8 (YS 9 (YS 10 (YF 11 .nil))))) (YE 7 (YF 4 (YF 8 (YS 9 (YS 10 (YF 11 .nil))))) .stop)) .stop)) .stop)))))) ?_
 refine Yta ?_
 refine Yty (Zf fo_107_8) ?_
 refine Ytx (Zl 6 8 ag_22) ?_ ?_
 refine Ztcc [0,0] [7] (k_final (i:=j+1) hT hO hR62 Om) rfl ?_ GT.stop
 refine Ztcc [3,1] [7] (k_final (i:=j+2) hT hO hR62 Om) rfl ?_ GT.stop
 refine GT.eff (e_bs (ps:=[(0,.tmp 200),(1,.tmp 201)]) (pv:=[(0,Va (text.getD (j+1) 0)),(1,Va (text.getD (j+2) 0))]) (vs:=[Va (text.getD (j+1) 0),Va (text.getD (j+2) 0)]) 1 rfl ⟨rfl,rfl⟩ el_22 Od Ov rfl rfl) rfl rfl ?_ GT.stop
 rintro _ _ ⟨b93,rfl,rfl⟩
 obtain⟨W94,hW94⟩:∃z,z=splN W91 (0+((0+j)+1)) [text.getD (j+1) 0,text.getD (j+2) 0]:=⟨_,rfl⟩
 refine GT.eff (e_appIn (W:=W91) (ys:=[text.getD (j+1) 0,text.getD (j+2) 0]) (k:=.u8) 9 0 rfl rfl rfl rfl el_22 rfl rfl rfl ⟨rfl,Om⟩ (Src.ofL 0 0 rfl rfl rfl) ⟨Om,by first|rfl|omega|(simp;omega)⟩ rfl rfl) rfl rfl ?_ GT.stop
 rintro _ _ ⟨rfl,rfl⟩
 rw[←hW94]
 have hlW94:W94.length=256:=by rw[hW94,splN_length Oz];exact hlW91
 have htW94:W94.take text.length=text:=by rw[hW94];simp only[Nat.zero_add];exact out2 htW91 Om Om
 refine Yta ?_
 refine Yty (Zf fo_107_8) ?_
 refine Ytt (Zst 7 8 sz_22) ?_
 refine GT.nil (GQ.thenN (G.exit (GQ.thenE (GQ.blockO rfl (GQ.thenE (GQ.blockE (GQ.thenN (Y5 ?_))))))))
 refine Zcc [2] [] (c_f_close (Vs bi (so+(ki+p)) (li-p) (ci-p)) _ bF 514 none s61 Oa Om) rfl ?_
 refine Ya ?_
 refine Zn (G.ret ?_)
 repeat first|refine ZR ?_|refine ZB ?_
 exact ret1 [5,6,7] rfl rfl rfl (⟨W94,rfl,hlW94,htW94,by rw[show text.length=((0+j)+1)+2 by omega];rfl⟩)
 refine Ztcc [0,0] [7] (k_final (i:=j+1) hT hO hR62 Om) rfl ?_ GT.stop
 refine Ytx (Zl 6 8 ag_22) ?_ ?_
 refine Ztcc [3,1] [7] (k_final (i:=j+2) hT hO hR62 Om) rfl ?_ GT.stop
 refine GT.eff (e_bs (ps:=[(0,.tmp 200),(1,.tmp 201)]) (pv:=[(0,Va (text.getD (j+1) 0)),(1,Va (text.getD (j+2) 0))]) (vs:=[Va (text.getD (j+1) 0),Va (text.getD (j+2) 0)]) 1 rfl ⟨rfl,rfl⟩ el_22 Od Ov rfl rfl) rfl rfl ?_ GT.stop
 rintro _ _ ⟨b95,rfl,rfl⟩
 obtain⟨W96,hW96⟩:∃z,z=splN W91 (0+((0+j)+1)) [text.getD (j+1) 0,text.getD (j+2) 0]:=⟨_,rfl⟩
 refine GT.eff (e_appIn (W:=W91) (ys:=[text.getD (j+1) 0,text.getD (j+2) 0]) (k:=.u8) 9 0 rfl rfl rfl rfl el_22 rfl rfl rfl ⟨rfl,Om⟩ (Src.ofL 0 0 rfl rfl rfl) ⟨Om,by first|rfl|omega|(simp;omega)⟩ rfl rfl) rfl rfl ?_ GT.stop
 rintro _ _ ⟨rfl,rfl⟩
 rw[←hW96]
 have hlW96:W96.length=256:=by rw[hW96,splN_length Oz];exact hlW91
 have htW96:W96.take text.length=text:=by rw[hW96];simp only[Nat.zero_add];exact out2 htW91 Om Om
 refine Yta ?_
 refine Yty (Zf fo_107_8) ?_
 refine Ytt (Zst 7 8 sz_22) ?_
 refine GT.nil (GQ.thenN (G.exit (GQ.thenE (GQ.blockO rfl (GQ.thenE (GQ.blockE (GQ.thenN (Y5 ?_))))))))
 refine Zcc [2] [] (c_f_close (Vs bi (so+(ki+p)) (li-p) (ci-p)) _ bF 514 none s61 Oa Om) rfl ?_
 refine Ya ?_
 refine Zn (G.ret ?_)
 repeat first|refine ZR ?_|refine ZB ?_
 exact ret1 [5,6,7] rfl rfl rfl (⟨W96,rfl,hlW96,htW96,by rw[show text.length=((0+j)+1)+2 by omega];rfl⟩)
 refine Ztcc [3,1] [7] (k_final (i:=j+2) hT hO hR62 Om) rfl ?_ GT.stop
 refine Ytx (Zl 6 8 ag_22) ?_ ?_
 refine GT.eff (e_bs (ps:=[(0,.tmp 200),(1,.tmp 201)]) (pv:=[(0,Va (text.getD (j+1) 0)),(1,Va (text.getD (j+2) 0))]) (vs:=[Va (text.getD (j+1) 0),Va (text.getD (j+2) 0)]) 1 rfl ⟨rfl,rfl⟩ el_22 Od Ov rfl rfl) rfl rfl ?_ GT.stop
 rintro _ _ ⟨b97,rfl,rfl⟩
 obtain⟨W98,hW98⟩:∃z,z=splN W91 (0+((0+j)+1)) [text.getD (j+1) 0,text.getD (j+2) 0]:=⟨_,rfl⟩
 refine GT.eff (e_appIn (W:=W91) (ys:=[text.getD (j+1) 0,text.getD (j+2) 0]) (k:=.u8) 9 0 rfl rfl rfl rfl el_22 rfl rfl rfl ⟨rfl,Om⟩ (Src.ofL 0 0 rfl rfl rfl) ⟨Om,by first|rfl|omega|(simp;omega)⟩ rfl rfl) rfl rfl ?_ GT.stop
 rintro _ _ ⟨rfl,rfl⟩
 rw[←hW98]
 have hlW98:W98.length=256:=by rw[hW98,splN_length Oz];exact hlW91
 have htW98:W98.take text.length=text:=by rw[hW98];simp only[Nat.zero_add];exact out2 htW91 Om Om
 refine Yta ?_
 refine Yty (Zf fo_107_8) ?_
 refine Ytt (Zst 7 8 sz_22) ?_
 refine GT.nil (GQ.thenN (G.exit (GQ.thenE (GQ.blockO rfl (GQ.thenE (GQ.blockE (GQ.thenN (Y5 ?_))))))))
 refine Zcc [2] [] (c_f_close (Vs bi (so+(ki+p)) (li-p) (ci-p)) _ bF 514 none s61 Oa Om) rfl ?_
 refine Ya ?_
 refine Zn (G.ret ?_)
 repeat first|refine ZR ?_|refine ZB ?_
 exact ret1 [5,6,7] rfl rfl rfl (⟨W98,rfl,hlW98,htW98,by rw[show text.length=((0+j)+1)+2 by omega];rfl⟩)
 refine GT.eff (e_bs (ps:=[(0,.tmp 200),(1,.tmp 201)]) (pv:=[(0,Va (text.getD (j+1) 0)),(1,Va (text.getD (j+2) 0))]) (vs:=[Va (text.getD (j+1) 0),Va (text.getD (j+2) 0)]) 1 rfl ⟨rfl,rfl⟩ el_22 Od Ov rfl rfl) rfl rfl ?_ GT.stop
 rintro _ _ ⟨b99,rfl,rfl⟩
 refine Ytu (Zl 7 8 ag_22) ?_
 obtain⟨W100,hW100⟩:∃z,z=splN W91 (0+((0+j)+1)) [text.getD (j+1) 0,text.getD (j+2) 0]:=⟨_,rfl⟩
 refine GT.eff (e_appIn (W:=W91) (ys:=[text.getD (j+1) 0,text.getD (j+2) 0]) (k:=.u8) 9 0 rfl rfl rfl rfl el_22 rfl rfl rfl ⟨rfl,Om⟩ (Src.ofL 0 0 rfl rfl rfl) ⟨Om,by first|rfl|omega|(simp;omega)⟩ rfl rfl) rfl rfl ?_ GT.stop
 rintro _ _ ⟨rfl,rfl⟩
 rw[←hW100]
 have hlW100:W100.length=256:=by rw[hW100,splN_length Oz];exact hlW91
 have htW100:W100.take text.length=text:=by rw[hW100];simp only[Nat.zero_add];exact out2 htW91 Om Om
 refine Yta ?_
 refine Yty (Zf fo_107_8) ?_
 refine Ytt (Zst 7 8 sz_22) ?_
 refine GT.nil (GQ.thenN (G.exit (GQ.thenE (GQ.blockO rfl (GQ.thenE (GQ.blockE (GQ.thenN (Y5 ?_))))))))
 refine Zcc [2] [] (c_f_close (Vs bi (so+(ki+p)) (li-p) (ci-p)) _ bF 514 none s61 Oa Om) rfl ?_
 refine Ya ?_
 refine Zn (G.ret ?_)
 repeat first|refine ZR ?_|refine ZB ?_
 exact ret1 [5,6,7] rfl rfl rfl (⟨W100,rfl,hlW100,htW100,by rw[show text.length=((0+j)+1)+2 by omega];rfl⟩)
 refine Z7 (G.seq ?_)
 refine Zh 1264 (YS 0 (YS 1 (YS 2 (YS 3 (YE 4 (YE 5 (YF 6 (YF 7 (YS 8 (YS 9 (YF 10 .nil))))) .stop) (YE 5 (YE 4 (YF 6 (YF 7 (YS 8 (YS 9 (YF 10 .nil))))) (YE 6 (YF 4 (YF 7 (YS 8 (YS 9 (YF 10 .nil))))) .stop)) .stop)))))) ?_
 refine Yta ?_
 refine Yty (Zf fo_107_8) ?_
 refine Ytx (Zl 6 8 ag_22) ?_ ?_
 refine Ztcp [0,0] [7] (k_next hT hO hb hR62 Om Om) rfl ?_ GT.stop
 rintro _ _ ⟨rfl,s101,hR102,hfs101,hos101,rfl⟩
 have hks101:=hR102.pos.ok
 have hls101:=hR102.pos.rd
 have hR102:RdF xs (ki+p) (li-p) T A (j+2) s101:=hR102
 refine GT.eff (e_bs (ps:=[(0,.tmp 211)]) (pv:=[(0,Va (text.getD (j+1) 0))]) (vs:=[Va (text.getD (j+1) 0)]) 1 rfl ⟨rfl,rfl⟩ el_22 Od Ov rfl rfl) rfl rfl ?_ GT.stop
 rintro _ _ ⟨b104,rfl,rfl⟩
 obtain⟨W105,hW105⟩:∃z,z=splN W91 (0+((0+j)+1)) [text.getD (j+1) 0]:=⟨_,rfl⟩
 refine GT.eff (e_appIn (W:=W91) (ys:=[text.getD (j+1) 0]) (k:=.u8) 9 0 rfl rfl rfl rfl el_22 rfl rfl rfl ⟨rfl,Om⟩ (Src.ofL 0 0 rfl rfl rfl) ⟨Om,by first|rfl|omega|(simp;omega)⟩ rfl rfl) rfl rfl ?_ GT.stop
 rintro _ _ ⟨rfl,rfl⟩
 rw[←hW105]
 have hlW105:W105.length=256:=by rw[hW105,splN_length Oz];exact hlW91
 have htW105:W105.take ((j+1)+1)=text.take ((j+1)+1):=by rw[hW105];simp only[Nat.zero_add];exact out1 htW91 Om Om
 refine Yta ?_
 refine Yty (Zf fo_107_8) ?_
 refine Ytt (Zst 7 8 sz_22) ?_
 refine GT.nil (GQ.thenN (G.seq ?_))
 refine Zg 0 [y_0,y_1,y_2,r_3,y_4,y_5,y_6,y_7,r_8,y_9] ?_
 refine Ypa ?_
 refine Ypy (Zf fo_107_8) ?_
 refine Ypr (Zl 7 8 ag_22) ?_
 refine Ypy (Zlen un_22) ?_
 refine Ypy (Zf fo_107_9) ?_
 refine Ypr (Zl 7 9 ag_3) ?_
 refine Ypy (Zge (((0+j)+1)+1) 255) ?_
 refine GP.nil (GQ.thenN ?_)
 refine Zc (fun h106=>?_) (fun h106=>?_)
 exfalso;omega
 refine G.skip (GQ.blockN ?_)
 refine GQ.pick [1,1,2,2,2,2,2,2] rfl ?_
 exact Zb ⟨W105,j+2,s101,rfl,Om,hR102,hlW105,htW105,rfl,rfl⟩
 refine Ztcp [0,0] [7] (k_next hT hO hb hR62 Om Om) rfl ?_ GT.stop
 rintro _ _ ⟨rfl,s107,hR108,hfs107,hos107,rfl⟩
 have hks107:=hR108.pos.ok
 have hls107:=hR108.pos.rd
 have hR108:RdF xs (ki+p) (li-p) T A (j+2) s107:=hR108
 refine Ytx (Zl 6 8 ag_22) ?_ ?_
 refine GT.eff (e_bs (ps:=[(0,.tmp 211)]) (pv:=[(0,Va (text.getD (j+1) 0))]) (vs:=[Va (text.getD (j+1) 0)]) 1 rfl ⟨rfl,rfl⟩ el_22 Od Ov rfl rfl) rfl rfl ?_ GT.stop
 rintro _ _ ⟨b110,rfl,rfl⟩
 obtain⟨W111,hW111⟩:∃z,z=splN W91 (0+((0+j)+1)) [text.getD (j+1) 0]:=⟨_,rfl⟩
 refine GT.eff (e_appIn (W:=W91) (ys:=[text.getD (j+1) 0]) (k:=.u8) 9 0 rfl rfl rfl rfl el_22 rfl rfl rfl ⟨rfl,Om⟩ (Src.ofL 0 0 rfl rfl rfl) ⟨Om,by first|rfl|omega|(simp;omega)⟩ rfl rfl) rfl rfl ?_ GT.stop
 rintro _ _ ⟨rfl,rfl⟩
 rw[←hW111]
 have hlW111:W111.length=256:=by rw[hW111,splN_length Oz];exact hlW91
 have htW111:W111.take ((j+1)+1)=text.take ((j+1)+1):=by rw[hW111];simp only[Nat.zero_add];exact out1 htW91 Om Om
 refine Yta ?_
 refine Yty (Zf fo_107_8) ?_
 refine Ytt (Zst 7 8 sz_22) ?_
 refine GT.nil (GQ.thenN (G.seq ?_))
 refine Zg 0 [y_0,y_1,y_2,r_3,y_4,y_5,y_6,y_7,r_8,y_9] ?_
 refine Ypa ?_
 refine Ypy (Zf fo_107_8) ?_
 refine Ypr (Zl 7 8 ag_22) ?_
 refine Ypy (Zlen un_22) ?_
 refine Ypy (Zf fo_107_9) ?_
 refine Ypr (Zl 7 9 ag_3) ?_
 refine Ypy (Zge (((0+j)+1)+1) 255) ?_
 refine GP.nil (GQ.thenN ?_)
 refine Zc (fun h112=>?_) (fun h112=>?_)
 exfalso;omega
 refine G.skip (GQ.blockN ?_)
 refine GQ.pick [1,1,2,2,2,2,2,2] rfl ?_
 exact Zb ⟨W111,j+2,s107,rfl,Om,hR108,hlW111,htW111,rfl,rfl⟩
 refine GT.eff (e_bs (ps:=[(0,.tmp 211)]) (pv:=[(0,Va (text.getD (j+1) 0))]) (vs:=[Va (text.getD (j+1) 0)]) 1 rfl ⟨rfl,rfl⟩ el_22 Od Ov rfl rfl) rfl rfl ?_ GT.stop
 rintro _ _ ⟨b113,rfl,rfl⟩
 refine Ytu (Zl 7 8 ag_22) ?_
 obtain⟨W114,hW114⟩:∃z,z=splN W91 (0+((0+j)+1)) [text.getD (j+1) 0]:=⟨_,rfl⟩
 refine GT.eff (e_appIn (W:=W91) (ys:=[text.getD (j+1) 0]) (k:=.u8) 9 0 rfl rfl rfl rfl el_22 rfl rfl rfl ⟨rfl,Om⟩ (Src.ofL 0 0 rfl rfl rfl) ⟨Om,by first|rfl|omega|(simp;omega)⟩ rfl rfl) rfl rfl ?_ GT.stop
 rintro _ _ ⟨rfl,rfl⟩
 rw[←hW114]
 have hlW114:W114.length=256:=by rw[hW114,splN_length Oz];exact hlW91
 have htW114:W114.take ((j+1)+1)=text.take ((j+1)+1):=by rw[hW114];simp only[Nat.zero_add];exact out1 htW91 Om Om
 refine Yta ?_
 refine Yty (Zf fo_107_8) ?_
 refine Ytt (Zst 7 8 sz_22) ?_
 refine GT.nil (GQ.thenN (G.seq ?_))
 refine Zg 0 [y_0,y_1,y_2,r_3,y_4,y_5,y_6,y_7,r_8,y_9] ?_
 refine Ypa ?_
 refine Ypy (Zf fo_107_8) ?_
 refine Ypr (Zl 7 8 ag_22) ?_
 refine Ypy (Zlen un_22) ?_
 refine Ypy (Zf fo_107_9) ?_
 refine Ypr (Zl 7 9 ag_3) ?_
 refine Ypy (Zge (((0+j)+1)+1) 255) ?_
 refine GP.nil (GQ.thenN ?_)
 refine Zc (fun h115=>?_) (fun h115=>?_)
 exfalso;omega
 refine G.skip (GQ.blockN ?_)
 refine GQ.pick [1,1,2,2,2,2,2,2] rfl ?_
 exact Zb ⟨W114,j+2,s107,rfl,Om,hR108,hlW114,htW114,rfl,rfl⟩
set_option maxHeartbeats 2000000 in
theorem c_fse (bi so:Nat) (shi:Shp) (xs:List Nat) (ki li ci:Nat) (hci:li≤ci) (hk:ki+li≤xs.length) (hz:xs.length≤1152921504606846976) (hb:Bytes xs) (bF:Nat) (CN NR:List Nat) (hN:NR.length=256) (c0 c1 d0 d1 d2 d3 r0 r1 r2 r5 r7 r10 r11:Value) (bH oH:Nat) (shH:Shp) (W0:List Nat) (hW0:W0.length=256) (ys cs ws:List Nat) (hxy:∀i,i<li→xs.getD (ki+i) 0=ys.getD i 0) (hyl:ys.length=li) (hB:FseBlk cs ws ys) (hcl:cs.length≤13) (ha63:AllLe cs 63) (hcalm:∀P c',cs=P++c'→P.sum=64→AllLe P 31) (hws:ws.length≤255):Con Tryz.prog 35 [Vs bi (so+ki) li ci,Vp bF 0] [⟨bF,0,(nats .u32 CN),none⟩,⟨bF,256,(nats .i16 NR),none⟩,⟨bF,512,[c0,c1],none⟩,⟨bF,514,[d0,d1,d2,d3],none⟩,⟨bF,518,[r0,r1,r2,.slice none 0 0,.slice none 0 0,r5,.slice none 0 0,r7,Vs bH oH 256 256,Vh 255,r10,r11,.bool false,.bool false,Va 0,Va 0],none⟩,⟨bH,oH,(nats .u8 W0),shH⟩] [⟨bi,so,(nats .u8 xs),shi⟩] (fun v l'=>∃b1 b2 b3 n:Nat,∃W',v=.tuple #[Vs bH oH ws.length 256,.nilIface]∧W'.length=256∧W'.take ws.length=ws∧l'=[⟨bF,518,[r0,r1,r2,Vs b2 0 256 256,Vs b3 0 256 256,r5,Vs b1 0 64 64,r7,Vs bH oH ws.length 256,Vh 255,Vb n,Va 6,.bool false,.bool false,Va 255,Va 11],none⟩,⟨bH,oH,nats .u8 W',shH⟩]):=by
 refine Zi Tryz.func35 rfl fun w0=>?_
 refine Y5 ?_
 refine Y2 ?_
 refine Zcc [0,1,2] [] (c_f_prepare _ _ _ _ _ _ _ _ _ _ _ _ _ _ _ _ _ _ _ _) rfl ?_
 refine Ya ?_
 refine Y3 ?_
 refine Yy (y_neNilNil rfl rfl un_52) ?_
 refine Zn (G.condF rfl (Y8 ?_))
 refine Yy (Zf fo_107_8) ?_
 refine Yr (Zl 2 8 ag_22) ?_
 refine Yy (y_slH (hi:=0) rfl rfl rfl se_22 Om) ?_
 refine Yy (Zf fo_107_8) ?_
 refine Ys (Zst 2 8 sz_22) ?_
 refine Z4 ?_
 have hyb:=hB.bytes
 obtain⟨E,hD,hL,hr1,hr2,hpk⟩:=hB.read
 rw[hyl] at hL
 have hye:tailV xs ki li=tailV ys 0 li:=tailV_congr li fun i hi=>by rw[Nat.zero_add];exact hxy i hi
 have h6E:=hD.len6
 have h2B:=hpk.two
 rw[List.length_drop] at h2B
 refine YG ?_
 refine Zcp [0,2,0,0] [2] (c_readN bi so shi xs ki li ci Om Om Om hb bF CN NR _ _ _ _ _ _ _ _ _ _ _ _ _ _ _ _ hN ys cs E hyb hye Om hD hcl ha63 hL) rfl ?_
 rintro _ _ ⟨NR2,P,rfl,hN2,hNP,⟨c',hcs⟩,hPs,rfl⟩
 refine Ya ?_
 refine Y3 ?_
 refine Yy (y_neNilNil rfl rfl un_52) ?_
 refine Zn (G.condF rfl (Z7 (G.seq ?_)))
 have hC:=CountsB.front Om ha63 hcs hPs
 have ha31:=hcalm P c' hcs hPs
 refine YG ?_
 refine Zcp [0,0,1] [] (c_buildD bF CN NR2 _ _ _ _ _ _ _ _ _ _ P.length P hC ha31 hN2 hNP rfl) rfl ?_
 rintro _ _ ⟨b1,b2,b3,rfl,rfl⟩
 refine Ya ?_
 refine Y3 ?_
 refine Yy (y_neNilNil rfl rfl un_52) ?_
 refine Zn (G.condF rfl (Z7 (G.seq ?_)))
 obtain⟨A,hT,hlen,hv⟩:=FseBlk.text hpk hB.cB.sum hC hcs hyl hxy
 have hO:=FseOK.of hC ha31
 refine YG ?_
 refine Zcp [0,3,3,0,1,1] [0,1] (c_fse_decompress bi so shi xs ki li ci ((4+E.length+7)/8) Om Om Om hb bF CN _ _ _ _ _ _ _ _ _ _ _ _ _ _ b2 (List.replicate 256 0) Oi bH oH shH W0 hW0 b1 0 64 none (tableF 6 P) ws A hT hO hws Om Om hlen hv) rfl ?_
 rintro _ _ ⟨W2,rfl,hW2,hW3,rfl⟩
 refine Ya ?_
 refine Y3 ?_
 refine Yy (y_neNilNil rfl rfl un_52) ?_
 refine Zn (G.condF rfl (Y8 ?_))
 refine Yy (Zf fo_107_8) ?_
 refine Yr (Zl 1 8 ag_22) ?_
 refine Zn (G.ret ?_)
 repeat first|refine ZR ?_|refine ZB ?_
 exact ret2 [1,1] rfl rfl rfl rfl (⟨b1,b2,b3,P.length,W2,rfl,hW2,hW3,rfl⟩)
set_option maxHeartbeats 2000000 in
theorem c_h_prepare:Con Tryz.prog 33 [(Value.pointer none),.slice none 0 0] [] [] (fun v l'=>∃bS bF bo bn,v=.tuple #[Vp bS 0,.nilIface]∧l'=[⟨bS,0,(nats .u32 (List.replicate 256 0)),(some (91,535))⟩,⟨bS,256,[Vs bo 0 0 0,.slice none 0 0,.slice none 0 0,Vh 262143,Vh 0,Va 255,Va 11,Va 0,Va 0,Vb 0,Vh 0,.bool false,Va 0,Va 0,.slice none 0 0,.slice none 0 0,.slice none 0 0,Vs bn 0 0 513,.slice none 0 0,.slice none 0 0,.slice none 0 0,.slice none 0 0,Vp bF 0],none⟩,⟨bS,279,(nats .u8 (List.replicate 256 0)),none⟩,⟨bF,0,(nats .u32 (List.replicate 256 0)),none⟩,⟨bF,256,(nats .i16 (List.replicate 256 0)),none⟩,⟨bF,512,[.slice none 0 0,Vh 0],none⟩,⟨bF,514,[.slice none 0 0,Vd 0,Vd 0,Va 0],none⟩,⟨bF,518,[Vd 0,Va 0,.slice none 0 0,.slice none 0 0,.slice none 0 0,.slice none 0 0,.slice none 0 0,Vh 0,.slice none 0 0,Vh 0,Vb 0,Va 0,.bool false,.bool false,Va 0,Va 0],none⟩]):=by
 refine Zi Tryz.func33 rfl fun w0=>?_
 refine Y5 ?_
 refine Y3 ?_
 refine Yy (Zlen un_22) ?_
 refine Yy (Zgt 0 262143) ?_
 refine Zn ?_
 refine G.condDF rfl Od ?_
 refine Z7 (Y6 ?_)
 refine Yy (y_eqPNilNil rfl rfl un_50) ?_
 refine Zn (G.condT rfl (YG ?_))
 refine Yy (y_bd (ps:=[]) (pv:=[]) (vs:=(nats .u32 (List.replicate 256 0))++[.slice none 0 0,.slice none 0 0,.slice none 0 0,Vh 0,Vh 0,Va 0,Va 0,Va 0,Va 0,Vb 0,Vh 0,.bool false,Va 0,Va 0,.slice none 0 0,.slice none 0 0,.slice none 0 0,.slice none 0 0,.slice none 0 0,.slice none 0 0,.slice none 0 0,.slice none 0 0,(Value.pointer none)]++(nats .u8 (List.replicate 256 0))) rfl ⟨rfl,rfl⟩ st_91 zc_91 rfl) ?_
 refine Ze (e_boxN (cs:=(nats .u32 (List.replicate 256 0))++[.slice none 0 0,.slice none 0 0,.slice none 0 0,Vh 0,Vh 0,Va 0,Va 0,Va 0,Va 0,Vb 0,Vh 0,.bool false,Va 0,Va 0,.slice none 0 0,.slice none 0 0,.slice none 0 0,.slice none 0 0,.slice none 0 0,.slice none 0 0,.slice none 0 0,.slice none 0 0,(Value.pointer none)]++(nats .u8 (List.replicate 256 0))) (n:=535) rfl rfl (by simp[nats]) rfl rfl) fun b1=>?_
 refine Ya ?_
 refine Z4 (G.seq ?_)
 refine G.cut2S (xs:=(nats .u32 (List.replicate 256 0))) (ys:=[.slice none 0 0,.slice none 0 0,.slice none 0 0,Vh 0,Vh 0,Va 0,Va 0,Va 0,Va 0,Vb 0,Vh 0,.bool false,Va 0,Va 0,.slice none 0 0,.slice none 0 0,.slice none 0 0,.slice none 0 0,.slice none 0 0,.slice none 0 0,.slice none 0 0,.slice none 0 0,(Value.pointer none)]++(nats .u8 (List.replicate 256 0))) (o':=256) 0 rfl (List.append_assoc _ _ _) (by simp[nats]) ?_
 refine G.cut2 (xs:=[.slice none 0 0,.slice none 0 0,.slice none 0 0,Vh 0,Vh 0,Va 0,Va 0,Va 0,Va 0,Vb 0,Vh 0,.bool false,Va 0,Va 0,.slice none 0 0,.slice none 0 0,.slice none 0 0,.slice none 0 0,.slice none 0 0,.slice none 0 0,.slice none 0 0,.slice none 0 0,(Value.pointer none)]) (ys:=(nats .u8 (List.replicate 256 0))) (o':=279) 1 rfl rfl Oi ?_
 refine YG ?_
 refine Yy (Zf fo_91_6) ?_
 refine Yr (Zl 0 5 ag_5) ?_
 refine Yy (Zeq 0 0) ?_
 refine Zn ?_
 refine G.condDT rfl Od ?_
 refine YG ?_
 refine Yy (Zf fo_91_6) ?_
 refine Ys (Zst 0 5 sz_5) ?_
 refine Y3 ?_
 refine Yy (Zf fo_91_7) ?_
 refine Yr (Zl 0 6 ag_5) ?_
 refine Yy (Zeq 0 0) ?_
 refine Zn ?_
 refine G.condDT rfl Od ?_
 refine YG ?_
 refine Yy (Zf fo_91_7) ?_
 refine Ys (Zst 0 6 sz_5) ?_
 refine Y3 ?_
 refine Yy (Zf fo_91_7) ?_
 refine Yr (Zl 0 6 ag_5) ?_
 refine Zy (Zgt 11 11) ?_
 refine Za 1 ?_
 refine GL.knowF (t:=36) (p:=((11:Nat):Int)<((11:Nat):Int)) rfl Om ?_
 refine Ya ?_
 refine Yy (Zf fo_91_7) ?_
 refine Yr (Zl 0 6 ag_5) ?_
 refine Yy (Zlt 11 5) ?_
 refine Zn ?_
 refine G.condDF rfl Od ?_
 refine Z7 (Y6 ?_)
 refine Yy (Zf fo_91_4) ?_
 refine Yr (Zl 0 3 ag_3) ?_
 refine Zy (Zle 0 0) ?_
 refine Za 1 ?_
 refine GL.knowT (t:=49) (p:=((0:Nat):Int)≤((0:Nat):Int)) rfl Om ?_
 refine Ya ?_
 refine Zn (G.condT rfl (YG ?_))
 refine Yy (Zf fo_91_4) ?_
 refine Ys (Zst 0 3 sz_3) ?_
 refine Y3 ?_
 refine Yy (Zf fo_91_12) ?_
 refine Yr (Zl 0 11 ag_4) ?_
 refine Zn (G.condF rfl (Z7 (Y6 ?_)))
 refine Yy (Zf fo_91_1) ?_
 refine Yr (Zl 0 0 ag_22) ?_
 refine Yy (y_cap rfl rfl rfl rfl un_22) ?_
 refine Yy (Zeq 0 0) ?_
 refine Zn ?_
 refine G.condDT rfl Od ?_
 refine YG ?_
 refine Yy (Zlen un_22) ?_
 refine Ze (e_mkN (m:=0) (c:=0) rfl rfl rfl el_22 (by first|omega|decide) rfl rfl) fun b2=>?_
 refine Ya ?_
 refine Yy (Zf fo_91_1) ?_
 refine Ys (Zst 1 0 sz_22) ?_
 refine Y2 ?_
 refine Yy (Zf fo_91_1) ?_
 refine Yr (Zl 1 0 ag_22) ?_
 refine Yy (y_slH (hi:=0) rfl rfl rfl se_22 Om) ?_
 refine Yy (Zf fo_91_1) ?_
 refine Ys (Zst 1 0 sz_22) ?_
 refine Y2 ?_
 refine Yy (Zf fo_91_2) ?_
 refine Ys (Zst 1 1 sz_22) ?_
 refine Y2 ?_
 refine Yy (Zf fo_91_3) ?_
 refine Ys (Zst 1 2 sz_22) ?_
 refine Y3 ?_
 refine Yy (Zf fo_91_18) ?_
 refine Yr (Zl 1 17 ag_84) ?_
 refine Yy (y_cap rfl rfl rfl rfl un_84) ?_
 refine Yy (Zlt 0 513) ?_
 refine Zn ?_
 refine G.condDT rfl Od ?_
 refine YG ?_
 refine Ze (e_mkN (m:=0) (c:=513) rfl rfl rfl el_84 (by first|omega|decide) rfl rfl) fun b3=>?_
 refine Ya ?_
 refine Yy (Zf fo_91_18) ?_
 refine Ys (Zst 2 17 sz_84) ?_
 refine Y2 ?_
 refine Yy (Zf fo_91_18) ?_
 refine Yr (Zl 2 17 ag_84) ?_
 refine Yy (y_slH (hi:=0) rfl rfl rfl se_84 Om) ?_
 refine Yy (Zf fo_91_18) ?_
 refine Ys (Zst 2 17 sz_84) ?_
 refine Y3 ?_
 refine Yy (Zf fo_91_20) ?_
 refine Yr (Zl 2 22 ag_86) ?_
 refine Yy (y_eqPNilNil rfl rfl un_86) ?_
 refine Zn (G.condT rfl (YG ?_))
 refine Yy (y_bd (ps:=[]) (pv:=[]) (vs:=(nats .u32 (List.replicate 256 0))++(nats .i16 (List.replicate 256 0))++[.slice none 0 0,Vh 0,.slice none 0 0,Vd 0,Vd 0,Va 0,Vd 0,Va 0,.slice none 0 0,.slice none 0 0,.slice none 0 0,.slice none 0 0,.slice none 0 0,Vh 0,.slice none 0 0,Vh 0,Vb 0,Va 0,.bool false,.bool false,Va 0,Va 0]) rfl ⟨rfl,rfl⟩ st_107 zc_107 rfl) ?_
 refine Ze (e_boxN (cs:=(nats .u32 (List.replicate 256 0))++(nats .i16 (List.replicate 256 0))++[.slice none 0 0,Vh 0,.slice none 0 0,Vd 0,Vd 0,Va 0,Vd 0,Va 0,.slice none 0 0,.slice none 0 0,.slice none 0 0,.slice none 0 0,.slice none 0 0,Vh 0,.slice none 0 0,Vh 0,Vb 0,Va 0,.bool false,.bool false,Va 0,Va 0]) (n:=534) rfl rfl (by simp[nats]) rfl rfl) fun b4=>?_
 refine Ya ?_
 refine Yy (Zf fo_91_20) ?_
 refine Ys (Zst 3 22 sz_86) ?_
 refine Z4 ?_
 refine G.cut2 (xs:=(nats .u32 (List.replicate 256 0))) (ys:=(nats .i16 (List.replicate 256 0))++([.slice none 0 0,Vh 0]++([.slice none 0 0,Vd 0,Vd 0,Va 0]++[Vd 0,Va 0,.slice none 0 0,.slice none 0 0,.slice none 0 0,.slice none 0 0,.slice none 0 0,Vh 0,.slice none 0 0,Vh 0,Vb 0,Va 0,.bool false,.bool false,Va 0,Va 0]))) (o':=256) 0 rfl (List.append_assoc _ _ _) (by simp[nats]) ?_
 refine G.cut2 (xs:=(nats .i16 (List.replicate 256 0))) (ys:=[.slice none 0 0,Vh 0]++([.slice none 0 0,Vd 0,Vd 0,Va 0]++[Vd 0,Va 0,.slice none 0 0,.slice none 0 0,.slice none 0 0,.slice none 0 0,.slice none 0 0,Vh 0,.slice none 0 0,Vh 0,Vb 0,Va 0,.bool false,.bool false,Va 0,Va 0])) (o':=512) 1 rfl rfl (by simp[nats]) ?_
 refine G.cut2 (xs:=[.slice none 0 0,Vh 0]) (ys:=[.slice none 0 0,Vd 0,Vd 0,Va 0]++[Vd 0,Va 0,.slice none 0 0,.slice none 0 0,.slice none 0 0,.slice none 0 0,.slice none 0 0,Vh 0,.slice none 0 0,Vh 0,Vb 0,Va 0,.bool false,.bool false,Va 0,Va 0]) (o':=514) 1 rfl rfl Oi ?_
 refine G.cut2 (xs:=[.slice none 0 0,Vd 0,Vd 0,Va 0]) (ys:=[Vd 0,Va 0,.slice none 0 0,.slice none 0 0,.slice none 0 0,.slice none 0 0,.slice none 0 0,Vh 0,.slice none 0 0,Vh 0,Vb 0,Va 0,.bool false,.bool false,Va 0,Va 0]) (o':=518) 1 rfl rfl Oi ?_
 refine YG ?_
 refine Yy (Zlen un_22) ?_
 refine Yy (Zf fo_91_5) ?_
 refine Ys (Zst 7 4 sz_3) ?_
 refine Y2 ?_
 refine Zn (G.ret ?_)
 repeat first|refine ZR ?_|refine ZB ?_
 exact ret2 [9,7,7,4,3,2,0,0] rfl rfl rfl rfl (⟨b1,b4,b2,b3,rfl,rfl⟩)
end Go.Proofs.YtplgbfkpeampgaaGreatDoor
