/- Walks (printed by a program of my own). -/
import Derived.Test.YtplgbfkpeampgaaGreatDoorQ1
set_option linter.unusedVariables false
set_option linter.unusedSimpArgs false
set_option maxRecDepth 100000
namespace Go.Proofs.YtplgbfkpeampgaaGreatDoor
open Go
theorem k_peek (iv:Value) (len b o:Nat) (sh:Shp) (s:BR) (h:s.OK len) (L:Nat) {p:Nat} (h1:1≤L) (hL:L≤16) (hp:s.val/2^(64-L)=p):
    Con Tryz.prog 41 [Vp b o,Va L] [⟨b,o,brC iv s,sh⟩] [] (fun v l'=>v=Vb p∧l'=[⟨b,o,brC iv s,sh⟩]):=
  (c_peek_Shifted iv len b o sh s h L Om).mono fun v l' hh=>⟨hh.1.trans (congrArg (fun q:Nat=>Value.int .u16 (q:Int)) ((peek_eq s L h1 hL h.val).trans hp)),hh.2⟩
theorem c_poolGet (x:Value):Con Tryz.prog 67 [x] [] [] (fun v l'=>v=.nilIface∧l'=[]):=by
 refine Zi Tryz.func67 rfl fun w0=>?_
 refine Y5 ?_
 refine Y2 ?_
 refine Zn (G.ret ?_)
 repeat first|refine ZR ?_|refine ZB ?_
 exact ret1 [] rfl rfl rfl (⟨rfl,rfl⟩)
theorem c_poolPut (x y:Value):Con Tryz.prog 43 [x,y] [] [] (fun v l'=>v=.tuple #[]∧l'=[]):=by
 refine Zi Tryz.func43 rfl fun w0=>?_
 refine G.skip ?_
 exact ret0 [] rfl rfl (⟨rfl,rfl⟩)
theorem c_buffer (be eo:Nat) (she:Shp) (d0 d1 d2:Value):Con Tryz.prog 39 [Vp be eo] [] [⟨be,eo,[d0,d1,d2],she⟩] (fun v l'=>∃b,v=Vp b 0∧l'=[⟨b,0,nats .u8 (List.replicate 1024 0),some (156,(nats .u8 (List.replicate 1024 0)).length)⟩]):=by
 refine Zi Tryz.func39 rfl fun w0=>?_
 refine Y5 ?_
 refine Y2 ?_
 refine Yy (Zf fo_119_2) ?_
 refine Yr (Zk 0 2 ag_117) ?_
 refine Zcc [] [] (c_poolGet _) rfl ?_
 refine Yy (y_taNil (zv:=.pointer none) rfl rfl (by kernel_rfl) (by kernel_rfl)) ?_
 refine Y3 ?_
 refine Zn (G.condF rfl (Y8 ?_))
 refine Yy (y_bz (cs:=nats .u8 (List.replicate 1024 0)) rfl zc_156 (by kernel_rfl)) ?_
 refine Ze (e_boxA rfl rfl rfl rfl) fun b1=>?_
 refine Ya ?_
 refine Zn (G.ret ?_)
 repeat first|refine ZR ?_|refine ZB ?_
 exact ret1 [0] rfl rfl rfl (⟨_,rfl,rfl⟩)
set_option maxHeartbeats 4000000 in
theorem c_D1X_hi (bi so:Nat) (shi:Shp) (xs:List Nat) (k len cap:Nat) (hc:len≤cap) (hk:k+len≤xs.length) (hz:xs.length≤1152921504606846976) (hb:Bytes xs)
    (bt to tcap:Nat) (sht:Shp) (dt:List Nat) (hdl:dt.length=2048) (htc:2048≤tcap) (L:Nat) (cd:Nat→Nat × Nat) (S:Nat→Prop) (hT:Tab dt L cd S)
    (be eo:Nat) (she:Shp) (dp:Value) (bd:Nat) (zs text:List Nat) (hzs:zs.length=text.length) (htl1:1≤text.length) (h48:text.length≤1073741824)
    (hlen:1≤len) (hlast:0<xs.getD (k+(len-1)) 0) (hL8:8<L) (hR0:RdT xs k len cd S (BR.init 5 xs k len) text):Con Tryz.prog 24 [Vp be eo,Vs bd 0 0 text.length,Vs bi (so+k) len cap] [⟨bd,0,(nats .u8 zs),none⟩] [⟨be,eo,[Vs bt to 2048 tcap,Va L,dp],she⟩,⟨bt,to,(nats .u16 dt),sht⟩,⟨bi,so,(nats .u8 xs),shi⟩] (fun v l'=>∃q b o cs cap,v=.tuple #[.slice q text.length cap,.nilIface]∧GS q b o cs 1 cap∧text.length≤cap∧cs.take text.length=nats .u8 text∧l'=[⟨b,o,cs,none⟩]):=by
 refine Zi Tryz.func24 rfl fun w0=>?_
 refine G.seq ?_
 have hL11:=hT.L16
 have hL1:=hT.L1
 have hLL:=pow_le hL11
 have hOK0:=hR0.pos.ok
 refine YG ?_
 refine Y3 ?_
 refine Yy (Zf fo_119_0) ?_
 refine Yy (Zf fo_83_0) ?_
 refine Yr (Zk 0 0 ag_81) ?_
 refine Yy (Zlen un_81) ?_
 refine Yy (Zeq 2048 0) ?_
 refine Zn ?_
 refine Zc (fun h1=>?_) (fun h1=>?_)
 exfalso;omega
 refine Z7 (Y6 ?_)
 refine Yy (Zf fo_119_1) ?_
 refine Yr (Zk 0 1 ag_5) ?_
 refine Yy (Zle L 8) ?_
 refine Zn ?_
 refine Zc (fun h2=>?_) (fun h2=>?_)
 exfalso;omega
 refine Y8 ?_
 refine Ze (Zal zc_121) fun b3=>?_
 refine Y2 ?_
 refine Zcc [0] [3] (c_init_Shifted bi so shi xs k len cap Om Om Om Oa Om Oa b3 0 none _ _ _ _) rfl ?_
 refine Ya ?_
 refine Y3 ?_
 refine Yy (y_neNilNil rfl rfl un_52) ?_
 refine Zn (G.condF rfl (Y8 ?_))
 refine Yy (y_cap rfl rfl rfl rfl un_22) ?_
 refine Y2 ?_
 refine Yy (y_slH (hi:=0) rfl rfl rfl se_22 Om) ?_
 refine Y2 ?_
 refine Yy (Zf fo_119_0) ?_
 refine Yy (Zf fo_83_0) ?_
 refine Yr (Zk 0 0 ag_81) ?_
 refine Yy (y_slH (hi:=2048) rfl rfl rfl se_81 Om) ?_
 refine Y2 ?_
 refine Zcp [] [2] (c_buffer be eo she _ _ _) rfl ?_
 rintro _ _ ⟨b4,rfl,rfl⟩
 refine Ya ?_
 refine Y2 ?_
 refine Yy (Zxa 0 0 ae_156) ?_
 refine Y2 ?_
 refine Z4 (G.block ?_)
 refine G.pick [1,0,0] rfl ?_
 refine Zo (fun n ρ l=>∃s:BR,∃P B t ys:List Nat,∃ob dn:Nat,∃q:Option Addr,∃bq oq:Nat,∃cs:List Value,∃capd:Nat,n=t.length∧(RdT xs k len cd S s t)∧(text=P++B++t)∧(ob=B.length∧ob<256∧ob%4=0∧dn=P.length)∧(ys.length=1024∧ys.take ob=B)∧(GS q bq oq cs 1 capd)∧(dn≤capd)∧(cs.take dn=nats .u8 P)∧ρ=[(0,Vp be eo),(10,Vh text.length),(8,Vp b3 0),(12,Vp b4 0),(13,Vp b4 0),(11,Vs bt to 2048 tcap),(14,Va ob),(1,.slice q dn capd)]∧l=[⟨b3,0,[Vs bi (so+k) len cap,Vd s.off,Vd s.val,Va s.rd],none⟩,⟨b4,0,(nats .u8 ys),(some (156,(nats .u8 (List.replicate 1024 0)).length))⟩,⟨bq,oq,cs,none⟩]) ⟨(BR.init 5 xs k len),[],[],text,(List.replicate 1024 0),0,0,(some ⟨bd,0,none⟩),bd,0,(nats .u8 zs),text.length,rfl,hR0,rfl,⟨rfl,Od,rfl,rfl⟩,⟨Oi,rfl⟩,⟨by simp[hzs],.inl rfl⟩,Nat.zero_le _,rfl,rfl,rfl⟩ ?_ (hs:=rfl)
 rintro _ _ _ ⟨s,P,B,t,ys,ob,dn,q,bq,oq,cs,capd,rfl,hR,htx,hB,hys,hg,hc1,hp,rfl,rfl⟩
 have hk0:=hR.pos.ok
 have hv0:=hk0.val
 have hl0:=hR.left
 have hq0:=tN_le' hT hL11 hR.all
 refine Y6 ?_
 refine Yy (Zf fo_121_1) ?_
 refine Yr (Zl 0 1 ag_39) ?_
 refine Yy (Zge s.off 8) ?_
 refine Zn ?_
 refine Zc (fun h5=>?_) (fun h5=>?_)
 refine Z7 (G.block (G.seq ?_))
 obtain⟨c1,c2,c3,c4,t4,e4⟩:=four_of (t:=t) Om
 have hRc:RdT xs k len cd S s (c1::c2::c3::c4::t4):=e4▸hR
 have ht4:t.length=t4.length+4:=by rw[e4];rfl
 have htl:text.length=P.length+B.length+t.length:=by rw[htx];simp;omega
 have hys1:=hys.1
 have hset:=set4 (c1:=c1) (c2:=c2) (c3:=c3) (c4:=c4) hys.2 Om
 refine YG ?_
 refine Zcp [0] [4] (Con.some' (fun s'=>RdT xs k len cd S s' (c1::c2::c3::c4::t4)∧s'.rd≤32∧s.off≤s'.off+4∧s'.off≤s.off) (c_fillFast_Shifted bi so shi xs k len cap Om Om Om b3 0 none s Oa Oa Om Om) (RdT.fillFast hRc Oa Om)) rfl ?_
 rintro _ _ ⟨rfl,s6,⟨hR7,hfs6,hos6,hqs6⟩,rfl⟩
 have hks6:=hR7.pos.ok
 have hls6:=hR7.left
 have hvs6:=hks6.val
 refine Y2 ?_
 refine Yy (Zf fo_119_1) ?_
 refine Yr (Zk 0 1 ag_5) ?_
 obtain⟨n8,p9,hpp9,hep9,hvp9,hcp9,hap9,hbp9,hrp9,htp9,hN10⟩:=hR7.get hT hb Om
 refine Zcc [0] [] (k_peek (Vs bi (so+k) len cap) _ b3 0 none s6 Oa L Om Om hpp9) rfl ?_
 refine Yy (y_congr (ZandNb p9 2047) (congrArg (fun q:Nat=>Value.int .u16 (q:Int)) (and_low (m:=p9) (k:=11) Om))) ?_
 refine Yy (Zx (to+p9) p9 se_81) ?_
 refine Yr (r_ldar 1 p9 rfl rfl rfl ag_115 sz_115 Oe (nats_take1E Om hep9) rfl) ?_
 refine Ze (Zal zc_115) fun b11=>?_
 refine Ys (Zsw 0 sz_115) ?_
 refine Y2 ?_
 refine Yy (Zf fo_115_0) ?_
 refine Yr (Zl 0 0 ag_78) ?_
 refine Yy (Zq n8 (ZcvWa (n8+256*c1) un_78 un_5)) ?_
 refine Zcp [1] [] (Con.some' (fun s'=>RdT xs k len cd S s' (c2::c3::c4::t4)∧s'.rd=s6.rd+n8∧s'.off=s6.off) (c_advance_Shifted (Vs bi (so+k) len cap) _ b3 0 none s6 Oa n8 Om) ⟨hN10,adv_rd Om,rfl⟩) rfl ?_
 rintro _ _ ⟨rfl,s12,⟨hR13,hds12,hos12⟩,rfl⟩
 have hks12:=hR13.pos.ok
 have hls12:=hR13.left
 have hvs12:=hks12.val
 refine Z4 ?_
 refine Zg 512 [y_0,y_1,y_2,y_3,r_4,y_5,y_6,y_7,y_8,e_9] ?_
 refine Ypa ?_
 refine Ypy (ZaddNa ob 0) ?_
 refine Ypy (Zf fo_115_0) ?_
 refine Ypr (Zl 1 0 ag_78) ?_
 refine Ypy (Zq c1 (ZshrNb (n8+256*c1) 8)) ?_
 refine Ypy (ZcvNa c1 un_78 un_5) ?_
 refine Ypy (Zxb (ob+0) (ob+0) ae_89) ?_
 refine Yps (Zsu 2 (ob+0) sz_5) ?_
 refine GP.nil (GQ.thenN (Y5 ?_))
 refine Yy (Zf fo_119_1) ?_
 refine Yr (Zk 0 1 ag_5) ?_
 obtain⟨n14,p15,hpp15,hep15,hvp15,hcp15,hap15,hbp15,hrp15,htp15,hN16⟩:=hR13.get hT hb Om
 refine Zcc [0] [] (k_peek (Vs bi (so+k) len cap) _ b3 0 none s12 Oa L Om Om hpp15) rfl ?_
 refine Yy (y_congr (ZandNb p15 2047) (congrArg (fun q:Nat=>Value.int .u16 (q:Int)) (and_low (m:=p15) (k:=11) Om))) ?_
 refine Yy (Zx (to+p15) p15 se_81) ?_
 refine Yr (r_ldar 1 p15 rfl rfl rfl ag_115 sz_115 Oe (nats_take1E Om hep15) rfl) ?_
 refine Ys (Zsw 1 sz_115) ?_
 refine Y2 ?_
 refine Yy (Zf fo_115_0) ?_
 refine Yr (Zl 1 0 ag_78) ?_
 refine Yy (Zq n14 (ZcvWa (n14+256*c2) un_78 un_5)) ?_
 refine Zcp [0] [] (Con.some' (fun s'=>RdT xs k len cd S s' (c3::c4::t4)∧s'.rd=s12.rd+n14∧s'.off=s12.off) (c_advance_Shifted (Vs bi (so+k) len cap) _ b3 0 none s12 Oa n14 Om) ⟨hN16,adv_rd Om,rfl⟩) rfl ?_
 rintro _ _ ⟨rfl,s17,⟨hR18,hds17,hos17⟩,rfl⟩
 have hks17:=hR18.pos.ok
 have hls17:=hR18.left
 have hvs17:=hks17.val
 refine Z4 ?_
 refine Zg 512 [y_0,y_1,y_2,y_3,r_4,y_5,y_6,y_7,y_8,e_9] ?_
 refine Ypa ?_
 refine Ypy (ZaddNa ob 1) ?_
 refine Ypy (Zf fo_115_0) ?_
 refine Ypr (Zl 1 0 ag_78) ?_
 refine Ypy (Zq c2 (ZshrNb (n14+256*c2) 8)) ?_
 refine Ypy (ZcvNa c2 un_78 un_5) ?_
 refine Ypy (Zxb (ob+1) (ob+1) ae_89) ?_
 refine Yps (Zsu 2 (ob+1) sz_5) ?_
 refine GP.nil (GQ.thenN (Y5 ?_))
 refine Zcp [0] [5] (Con.some' (fun s'=>RdT xs k len cd S s' (c3::c4::t4)∧s'.rd≤32∧s17.off≤s'.off+4∧s'.off≤s17.off) (c_fillFast_Shifted bi so shi xs k len cap Om Om Om b3 0 none s17 Oa Oa Om Om) (RdT.fillFast hR18 Oa Om)) rfl ?_
 rintro _ _ ⟨rfl,s19,⟨hR20,hfs19,hos19,hqs19⟩,rfl⟩
 have hks19:=hR20.pos.ok
 have hls19:=hR20.left
 have hvs19:=hks19.val
 refine Y2 ?_
 refine Yy (Zf fo_119_1) ?_
 refine Yr (Zk 0 1 ag_5) ?_
 obtain⟨n21,p22,hpp22,hep22,hvp22,hcp22,hap22,hbp22,hrp22,htp22,hN23⟩:=hR20.get hT hb Om
 refine Zcc [0] [] (k_peek (Vs bi (so+k) len cap) _ b3 0 none s19 Oa L Om Om hpp22) rfl ?_
 refine Yy (y_congr (ZandNb p22 2047) (congrArg (fun q:Nat=>Value.int .u16 (q:Int)) (and_low (m:=p22) (k:=11) Om))) ?_
 refine Yy (Zx (to+p22) p22 se_81) ?_
 refine Yr (r_ldar 1 p22 rfl rfl rfl ag_115 sz_115 Oe (nats_take1E Om hep22) rfl) ?_
 refine Ys (Zsw 1 sz_115) ?_
 refine Y2 ?_
 refine Yy (Zf fo_115_0) ?_
 refine Yr (Zl 1 0 ag_78) ?_
 refine Yy (Zq n21 (ZcvWa (n21+256*c3) un_78 un_5)) ?_
 refine Zcp [0] [] (Con.some' (fun s'=>RdT xs k len cd S s' (c4::t4)∧s'.rd=s19.rd+n21∧s'.off=s19.off) (c_advance_Shifted (Vs bi (so+k) len cap) _ b3 0 none s19 Oa n21 Om) ⟨hN23,adv_rd Om,rfl⟩) rfl ?_
 rintro _ _ ⟨rfl,s24,⟨hR25,hds24,hos24⟩,rfl⟩
 have hks24:=hR25.pos.ok
 have hls24:=hR25.left
 have hvs24:=hks24.val
 refine Z4 ?_
 refine Zg 512 [y_0,y_1,y_2,y_3,r_4,y_5,y_6,y_7,y_8,e_9] ?_
 refine Ypa ?_
 refine Ypy (ZaddNa ob 2) ?_
 refine Ypy (Zf fo_115_0) ?_
 refine Ypr (Zl 1 0 ag_78) ?_
 refine Ypy (Zq c3 (ZshrNb (n21+256*c3) 8)) ?_
 refine Ypy (ZcvNa c3 un_78 un_5) ?_
 refine Ypy (Zxb (ob+2) (ob+2) ae_89) ?_
 refine Yps (Zsu 2 (ob+2) sz_5) ?_
 refine GP.nil (GQ.thenN (Y5 ?_))
 refine Yy (Zf fo_119_1) ?_
 refine Yr (Zk 0 1 ag_5) ?_
 obtain⟨n26,p27,hpp27,hep27,hvp27,hcp27,hap27,hbp27,hrp27,htp27,hN28⟩:=hR25.get hT hb Om
 refine Zcc [0] [] (k_peek (Vs bi (so+k) len cap) _ b3 0 none s24 Oa L Om Om hpp27) rfl ?_
 refine Yy (y_congr (ZandNb p27 2047) (congrArg (fun q:Nat=>Value.int .u16 (q:Int)) (and_low (m:=p27) (k:=11) Om))) ?_
 refine Yy (Zx (to+p27) p27 se_81) ?_
 refine Yr (r_ldar 1 p27 rfl rfl rfl ag_115 sz_115 Oe (nats_take1E Om hep27) rfl) ?_
 refine Ys (Zsw 1 sz_115) ?_
 refine Y2 ?_
 refine Yy (Zf fo_115_0) ?_
 refine Yr (Zl 1 0 ag_78) ?_
 refine Yy (Zq n26 (ZcvWa (n26+256*c4) un_78 un_5)) ?_
 refine Zcp [0] [] (Con.some' (fun s'=>RdT xs k len cd S s' t4∧s'.rd=s24.rd+n26∧s'.off=s24.off) (c_advance_Shifted (Vs bi (so+k) len cap) _ b3 0 none s24 Oa n26 Om) ⟨hN28,adv_rd Om,rfl⟩) rfl ?_
 rintro _ _ ⟨rfl,s29,⟨hR30,hds29,hos29⟩,rfl⟩
 have hks29:=hR30.pos.ok
 have hls29:=hR30.left
 have hvs29:=hks29.val
 refine Z4 ?_
 refine Zg 512 [y_0,y_1,y_2,y_3,r_4,y_5,y_6,y_7,y_8,e_9] ?_
 refine Ypa ?_
 refine Ypy (ZaddNa ob 3) ?_
 refine Ypy (Zf fo_115_0) ?_
 refine Ypr (Zl 1 0 ag_78) ?_
 refine Ypy (Zq c4 (ZshrNb (n26+256*c4) 8)) ?_
 refine Ypy (ZcvNa c4 un_78 un_5) ?_
 refine Ypy (Zxb (ob+3) (ob+3) ae_89) ?_
 refine Yps (Zsu 2 (ob+3) sz_5) ?_
 refine GP.nil (GQ.thenN (Y5 ?_))
 refine Yy (ZaddWa ob 4) ?_
 refine Y2 ?_
 refine Yy (Zeq ((ob+4)%256) 0) ?_
 refine Zn ?_
 refine Zc (fun h31=>?_) (fun h31=>?_)
 refine Y6 ?_
 refine Yy (Zlen un_22) ?_
 refine Yy (ZaddNh dn 256) ?_
 refine Yy (Zgt (dn+256) text.length) ?_
 refine Zn ?_
 refine Zc (fun h32=>?_) (fun h32=>?_)
 exfalso;omega
 refine Z7 (YG ?_)
 refine Yy (y_slA rfl rfl ae_89) ?_
 refine GL.eff (e_appN (k:=.u8) (n:=dn) (m:=256) (ys:=(((((ys.set (ob+0) c1).set (ob+1) c2).set (ob+2) c3).set (ob+3) c4).drop 0).take 256) 3 rfl rfl rfl rfl el_22 rfl rfl hg hp (Src.ofL 2 0 rfl (by first|rfl|(congr 2;omega)) (nats_src _ _ _)) Oq rfl rfl) rfl ?_
 rintro _ _ ⟨q33,b34,o35,cs36,cap37,hg38,hc39,ht40,rfl,rfl⟩
 refine Ya ?_
 refine GL.nil (GQ.blockN ?_)
 refine GQ.pick [0,1,1] rfl ?_
 exact Zb ⟨s29,(P++(B++[c1,c2,c3,c4])),[],t4,_,_,_,q33,b34,o35,cs36,cap37,rfl,hR30,by rw[htx,e4];simp,⟨Oz,Om,Om,Oz⟩,⟨by simp[hys.1],by rw[show(ob+4)%256=0 by omega];rfl⟩,hg38,hc39,(by have hh:=ht40;rw[List.drop_zero,show 256=ob+4 by omega,hset] at hh;rw[show 256=ob+4 by omega];exact hh),rfl,rfl⟩ (hs:=rfl)
 refine G.skip (GQ.blockN ?_)
 refine GQ.pick [0,1,1] rfl ?_
 exact Zb ⟨s29,P,(B++[c1,c2,c3,c4]),t4,_,_,dn,q,bq,oq,cs,capd,rfl,hR30,by rw[htx,e4];simp,⟨Oz,Om,Om,hB.2.2.2⟩,⟨by simp[hys.1],by rw[show(ob+4)%256=ob+4 by omega];exact hset⟩,hg,hc1,hp,rfl,rfl⟩ (hs:=rfl)
 refine G.exit (GQ.thenE (GQ.thenE (GQ.blockE (GQ.thenN (G.seq (G.seq ?_))))))
 have htl:text.length=P.length+B.length+t.length:=by rw[htx];simp;omega
 have hys1:=hys.1
 refine YG ?_
 refine Yy (Zlen un_22) ?_
 refine Yy (ZcvNh ob un_5 un_3) ?_
 refine Yy (ZaddNh dn ob) ?_
 refine Yy (Zgt (dn+ob) text.length) ?_
 refine Zn ?_
 refine Zc (fun h41=>?_) (fun h41=>?_)
 exfalso;omega
 refine Y8 ?_
 refine Yy (y_slAH (hi:=ob) rfl rfl rfl ae_89 Om) ?_
 refine GL.eff (e_appN (k:=.u8) (n:=dn) (m:=ob) (ys:=(ys.drop 0).take ob) 2 rfl rfl rfl rfl el_22 rfl rfl hg hp (Src.ofL 1 0 rfl (by first|rfl|(congr 2;omega)) (nats_src _ _ _)) Oq rfl rfl) rfl ?_
 rintro _ _ ⟨q42,b43,o44,cs45,cap46,hg47,hc48,ht49,rfl,rfl⟩
 refine Ya ?_
 refine Y2 ?_
 refine Yy (Zf fo_121_1) ?_
 refine Yr (Zl 0 1 ag_39) ?_
 refine Yy (ZcvNa s.off un_39 un_5) ?_
 refine Yy (ZmulNa s.off 8) ?_
 refine Yy (ZaddNa (s.off*8) 64) ?_
 refine Yy (Zf fo_121_3) ?_
 refine Yr (Zl 0 3 ag_5) ?_
 refine Yy (Zq (tN cd t) (ZsubNa ((s.off*8)+64) s.rd)) ?_
 refine Z4 (G.block ?_)
 refine G.pick [0,1] rfl ?_
 refine Zo (fun n ρ l=>∃s:BR,∃P t:List Nat,∃dn:Nat,∃q:Option Addr,∃bq oq:Nat,∃cs:List Value,∃capd:Nat,n=t.length∧(RdT xs k len cd S s t)∧(text=P++t)∧(dn=P.length∧s.off<8)∧(GS q bq oq cs 1 capd)∧(dn≤capd)∧(cs.take dn=nats .u8 P)∧ρ=[(0,Vp be eo),(10,Vh text.length),(8,Vp b3 0),(12,Vp b4 0),(16,Va (tN cd t)),(1,.slice q dn capd)]∧l=[⟨b3,0,[Vs bi (so+k) len cap,Vd s.off,Vd s.val,Va s.rd],none⟩,⟨bq,oq,cs,none⟩]) ⟨s,(P++B),t,_,q42,b43,o44,cs45,cap46,rfl,hR,htx,⟨Oz,Om⟩,hg47,hc48,(by have hh:=ht49;rw[List.drop_zero,hys.2] at hh;exact hh),rfl,rfl⟩ ?_ (hs:=rfl)
 rintro _ _ _ ⟨s,P,t,dn,q,bq,oq,cs,capd,rfl,hR,htx,hB,hg,hc1,hp,rfl,rfl⟩
 have hk0:=hR.pos.ok
 have hv0:=hk0.val
 have hl0:=hR.left
 have hq0:=tN_le' hT hL11 hR.all
 refine Y6 ?_
 refine Yy (Zgt (tN cd t) 0) ?_
 refine Zn ?_
 refine Zc (fun h50=>?_) (fun h50=>?_)
 refine Z7 (G.block (G.seq ?_))
 obtain⟨c1,t1,e1⟩:=one_of (t:=t) Om
 have hRc:RdT xs k len cd S s (c1::t1):=e1▸hR
 have ht1:t.length=t1.length+1:=by rw[e1];rfl
 have htn:tN cd t=tN cd (c1::t1):=by rw[e1]
 have htl:text.length=P.length+t.length:=by rw[htx];simp
 refine YG ?_
 refine Zcp [0] [3] (Con.some' (fun s'=>RdT xs k len cd S s' (c1::t1)∧(s'.rd≤32∨s'.off=0)∧s'.off≤s.off) (c_fill_Shifted bi so shi xs k len cap Om Om Om b3 0 none s Oa Oa Om Om) (RdT.fill hRc Oa Om Om)) rfl ?_
 rintro _ _ ⟨rfl,s51,⟨hR52,hfs51,hos51⟩,rfl⟩
 have hks51:=hR52.pos.ok
 have hls51:=hR52.left
 have hvs51:=hks51.val
 refine Y3 ?_
 refine Zn (G.condF rfl (Z7 (Y6 ?_)))
 refine Yy (Zlen un_22) ?_
 refine Yy (Zge dn text.length) ?_
 refine Zn ?_
 refine Zc (fun h53=>?_) (fun h53=>?_)
 exfalso;omega
 refine Z7 (G.seq ?_)
 refine Zh 29456 (YS 0 (YS 1 (YS 2 (YS 3 (YS 5 (YS 6 (YS 7 (YE 4 (YE 8 (YE 9 (YS 10 (YS 11 (YE 12 (YF 13 (YF 14 .nil)) (YF 13 (YF 12 (YF 14 .nil)))))) (YE 13 (YF 9 (YS 10 (YS 11 (YF 12 (YF 14 .nil))))) .stop)) (YE 13 (YE 8 (YF 9 (YS 10 (YS 11 (YF 12 (YF 14 .nil))))) .stop) .stop)) (YE 8 (YE 4 (YE 9 (YS 10 (YS 11 (YE 12 (YF 13 (YF 14 .nil)) (YF 13 (YF 12 (YF 14 .nil)))))) (YE 13 (YF 9 (YS 10 (YS 11 (YF 12 (YF 14 .nil))))) .stop)) (YE 9 (YS 10 (YE 4 (YS 11 (YE 12 (YF 13 (YF 14 .nil)) (YF 13 (YF 12 (YF 14 .nil))))) (YF 13 (YF 4 (YS 11 (YF 12 (YF 14 .nil))))))) (YE 13 (YE 4 (YF 9 (YS 10 (YS 11 (YF 12 (YF 14 .nil))))) (YE 9 (YS 10 (YF 4 (YS 11 (YF 12 (YF 14 .nil))))) .stop)) .stop))) (YE 13 (YE 4 (YE 8 (YF 9 (YS 10 (YS 11 (YF 12 (YF 14 .nil))))) .stop) (YE 8 (YE 4 (YF 9 (YS 10 (YS 11 (YF 12 (YF 14 .nil))))) (YE 9 (YS 10 (YF 4 (YS 11 (YF 12 (YF 14 .nil))))) .stop)) .stop)) .stop)))))))))) ?_
 refine Yta ?_
 refine Yty (Zf fo_119_0) ?_
 refine Yty (Zf fo_83_0) ?_
 refine Yty (Zf fo_119_1) ?_
 refine Ytx (Zk 0 0 ag_81) ?_ ?_
 refine Ytx (Zk 0 1 ag_5) ?_ ?_
 obtain⟨n54,p55,hpp55,hep55,hvp55,hcp55,hap55,hbp55,hrp55,htp55,hN56⟩:=hR52.get hT hb Om
 refine Ztcc [0] [] (k_peek (Vs bi (so+k) len cap) _ b3 0 none s51 Oa L Om Om hpp55) rfl ?_ ?_
 refine Yty (y_congr (ZandNb p55 2047) (congrArg (fun q:Nat=>Value.int .u16 (q:Int)) (and_low (m:=p55) (k:=11) Om))) ?_
 refine Yty (Zx (to+p55) p55 se_81) ?_
 refine Ytx (r_ldar 1 p55 rfl rfl rfl ag_115 sz_115 Oe (nats_take1E Om hep55) rfl) ?_ ?_
 refine GT.eff (Zal zc_115) rfl rfl ?_ GT.stop
 rintro _ _ ⟨b57,rfl,rfl⟩
 refine Ytt (Zsw 0 sz_115) ?_
 refine GT.nil (GQ.thenN (Y5 ?_))
 refine Yy (Zf fo_115_0) ?_
 refine Yr (Zl 0 0 ag_78) ?_
 refine Yy (Zq n54 (ZcvWa (n54+256*c1) un_78 un_5)) ?_
 refine Y2 ?_
 refine Zcp [1] [] (Con.some' (fun s'=>RdT xs k len cd S s' t1∧s'.rd=s51.rd+n54∧s'.off=s51.off) (c_advance_Shifted (Vs bi (so+k) len cap) _ b3 0 none s51 Oa n54 Om) ⟨hN56,adv_rd Om,rfl⟩) rfl ?_
 rintro _ _ ⟨rfl,s58,⟨hR59,hds58,hos58⟩,rfl⟩
 have hks58:=hR59.pos.ok
 have hls58:=hR59.left
 have hvs58:=hks58.val
 refine Y2 ?_
 refine Yy (Zq (tN cd t1) (ZsubNa (tN cd t) n54)) ?_
 refine Y1 ?_
 refine Yy (Zf fo_115_0) ?_
 refine Yr (Zl 1 0 ag_78) ?_
 refine Yy (Zq c1 (ZshrNb (n54+256*c1) 8)) ?_
 refine Yy (ZcvNa c1 un_78 un_5) ?_
 refine Ze (e_bs (ps:=[(0,.tmp 327)]) (pv:=[(0,Va c1)]) (vs:=[Va c1]) 1 rfl ⟨rfl,rfl⟩ el_22 Od Ov rfl rfl) fun b60=>?_
 refine GL.eff (e_appN (k:=.u8) (n:=dn) (m:=1) (ys:=[c1]) 3 rfl rfl rfl rfl el_22 rfl rfl hg hp (Src.ofL 0 0 rfl rfl rfl) Oq rfl rfl) rfl ?_
 rintro _ _ ⟨q61,b62,o63,cs64,cap65,hg66,hc67,ht68,rfl,rfl⟩
 refine Ya ?_
 refine GL.nil (GQ.blockN ?_)
 refine GQ.pick [1,2] rfl ?_
 exact Zb ⟨s58,(P++[c1]),t1,_,q61,b62,o63,cs64,cap65,rfl,hR59,by rw[htx,e1];simp,⟨Oz,Om⟩,hg66,hc67,ht68,rfl,rfl⟩ (hs:=rfl)
 refine GT.eff (Zal zc_115) rfl rfl ?_ GT.stop
 rintro _ _ ⟨b69,rfl,rfl⟩
 refine Ytu (r_ldar 1 p55 rfl rfl rfl ag_115 sz_115 Oe (nats_take1E Om hep55) rfl) ?_
 refine Ytt (Zsw 0 sz_115) ?_
 refine GT.nil (GQ.thenN (Y5 ?_))
 refine Yy (Zf fo_115_0) ?_
 refine Yr (Zl 0 0 ag_78) ?_
 refine Yy (Zq n54 (ZcvWa (n54+256*c1) un_78 un_5)) ?_
 refine Y2 ?_
 refine Zcp [1] [] (Con.some' (fun s'=>RdT xs k len cd S s' t1∧s'.rd=s51.rd+n54∧s'.off=s51.off) (c_advance_Shifted (Vs bi (so+k) len cap) _ b3 0 none s51 Oa n54 Om) ⟨hN56,adv_rd Om,rfl⟩) rfl ?_
 rintro _ _ ⟨rfl,s70,⟨hR71,hds70,hos70⟩,rfl⟩
 have hks70:=hR71.pos.ok
 have hls70:=hR71.left
 have hvs70:=hks70.val
 refine Y2 ?_
 refine Yy (Zq (tN cd t1) (ZsubNa (tN cd t) n54)) ?_
 refine Y1 ?_
 refine Yy (Zf fo_115_0) ?_
 refine Yr (Zl 1 0 ag_78) ?_
 refine Yy (Zq c1 (ZshrNb (n54+256*c1) 8)) ?_
 refine Yy (ZcvNa c1 un_78 un_5) ?_
 refine Ze (e_bs (ps:=[(0,.tmp 327)]) (pv:=[(0,Va c1)]) (vs:=[Va c1]) 1 rfl ⟨rfl,rfl⟩ el_22 Od Ov rfl rfl) fun b72=>?_
 refine GL.eff (e_appN (k:=.u8) (n:=dn) (m:=1) (ys:=[c1]) 3 rfl rfl rfl rfl el_22 rfl rfl hg hp (Src.ofL 0 0 rfl rfl rfl) Oq rfl rfl) rfl ?_
 rintro _ _ ⟨q73,b74,o75,cs76,cap77,hg78,hc79,ht80,rfl,rfl⟩
 refine Ya ?_
 refine GL.nil (GQ.blockN ?_)
 refine GQ.pick [1,2] rfl ?_
 exact Zb ⟨s70,(P++[c1]),t1,_,q73,b74,o75,cs76,cap77,rfl,hR71,by rw[htx,e1];simp,⟨Oz,Om⟩,hg78,hc79,ht80,rfl,rfl⟩ (hs:=rfl)
 refine GT.eff (Zal zc_115) rfl rfl ?_ GT.stop
 rintro _ _ ⟨b81,rfl,rfl⟩
 obtain⟨n82,p83,hpp83,hep83,hvp83,hcp83,hap83,hbp83,hrp83,htp83,hN84⟩:=hR52.get hT hb Om
 refine Ztcc [1] [] (k_peek (Vs bi (so+k) len cap) _ b3 0 none s51 Oa L Om Om hpp83) rfl ?_ GT.stop
 refine Yty (y_congr (ZandNb p83 2047) (congrArg (fun q:Nat=>Value.int .u16 (q:Int)) (and_low (m:=p83) (k:=11) Om))) ?_
 refine Yty (Zx (to+p83) p83 se_81) ?_
 refine Ytu (r_ldar 1 p83 rfl rfl rfl ag_115 sz_115 Oe (nats_take1E Om hep83) rfl) ?_
 refine Ytt (Zsw 1 sz_115) ?_
 refine GT.nil (GQ.thenN (Y5 ?_))
 refine Yy (Zf fo_115_0) ?_
 refine Yr (Zl 1 0 ag_78) ?_
 refine Yy (Zq n82 (ZcvWa (n82+256*c1) un_78 un_5)) ?_
 refine Y2 ?_
 refine Zcp [0] [] (Con.some' (fun s'=>RdT xs k len cd S s' t1∧s'.rd=s51.rd+n82∧s'.off=s51.off) (c_advance_Shifted (Vs bi (so+k) len cap) _ b3 0 none s51 Oa n82 Om) ⟨hN84,adv_rd Om,rfl⟩) rfl ?_
 rintro _ _ ⟨rfl,s85,⟨hR86,hds85,hos85⟩,rfl⟩
 have hks85:=hR86.pos.ok
 have hls85:=hR86.left
 have hvs85:=hks85.val
 refine Y2 ?_
 refine Yy (Zq (tN cd t1) (ZsubNa (tN cd t) n82)) ?_
 refine Y1 ?_
 refine Yy (Zf fo_115_0) ?_
 refine Yr (Zl 1 0 ag_78) ?_
 refine Yy (Zq c1 (ZshrNb (n82+256*c1) 8)) ?_
 refine Yy (ZcvNa c1 un_78 un_5) ?_
 refine Ze (e_bs (ps:=[(0,.tmp 327)]) (pv:=[(0,Va c1)]) (vs:=[Va c1]) 1 rfl ⟨rfl,rfl⟩ el_22 Od Ov rfl rfl) fun b87=>?_
 refine GL.eff (e_appN (k:=.u8) (n:=dn) (m:=1) (ys:=[c1]) 3 rfl rfl rfl rfl el_22 rfl rfl hg hp (Src.ofL 0 0 rfl rfl rfl) Oq rfl rfl) rfl ?_
 rintro _ _ ⟨q88,b89,o90,cs91,cap92,hg93,hc94,ht95,rfl,rfl⟩
 refine Ya ?_
 refine GL.nil (GQ.blockN ?_)
 refine GQ.pick [1,2] rfl ?_
 exact Zb ⟨s85,(P++[c1]),t1,_,q88,b89,o90,cs91,cap92,rfl,hR86,by rw[htx,e1];simp,⟨Oz,Om⟩,hg93,hc94,ht95,rfl,rfl⟩ (hs:=rfl)
 refine GT.eff (Zal zc_115) rfl rfl ?_ GT.stop
 rintro _ _ ⟨b96,rfl,rfl⟩
 refine Ytu (Zk 0 1 ag_5) ?_
 obtain⟨n97,p98,hpp98,hep98,hvp98,hcp98,hap98,hbp98,hrp98,htp98,hN99⟩:=hR52.get hT hb Om
 refine Ztcc [1] [] (k_peek (Vs bi (so+k) len cap) _ b3 0 none s51 Oa L Om Om hpp98) rfl ?_ GT.stop
 refine Yty (y_congr (ZandNb p98 2047) (congrArg (fun q:Nat=>Value.int .u16 (q:Int)) (and_low (m:=p98) (k:=11) Om))) ?_
 refine Yty (Zx (to+p98) p98 se_81) ?_
 refine Ytu (r_ldar 1 p98 rfl rfl rfl ag_115 sz_115 Oe (nats_take1E Om hep98) rfl) ?_
 refine Ytt (Zsw 1 sz_115) ?_
 refine GT.nil (GQ.thenN (Y5 ?_))
 refine Yy (Zf fo_115_0) ?_
 refine Yr (Zl 1 0 ag_78) ?_
 refine Yy (Zq n97 (ZcvWa (n97+256*c1) un_78 un_5)) ?_
 refine Y2 ?_
 refine Zcp [0] [] (Con.some' (fun s'=>RdT xs k len cd S s' t1∧s'.rd=s51.rd+n97∧s'.off=s51.off) (c_advance_Shifted (Vs bi (so+k) len cap) _ b3 0 none s51 Oa n97 Om) ⟨hN99,adv_rd Om,rfl⟩) rfl ?_
 rintro _ _ ⟨rfl,s100,⟨hR101,hds100,hos100⟩,rfl⟩
 have hks100:=hR101.pos.ok
 have hls100:=hR101.left
 have hvs100:=hks100.val
 refine Y2 ?_
 refine Yy (Zq (tN cd t1) (ZsubNa (tN cd t) n97)) ?_
 refine Y1 ?_
 refine Yy (Zf fo_115_0) ?_
 refine Yr (Zl 1 0 ag_78) ?_
 refine Yy (Zq c1 (ZshrNb (n97+256*c1) 8)) ?_
 refine Yy (ZcvNa c1 un_78 un_5) ?_
 refine Ze (e_bs (ps:=[(0,.tmp 327)]) (pv:=[(0,Va c1)]) (vs:=[Va c1]) 1 rfl ⟨rfl,rfl⟩ el_22 Od Ov rfl rfl) fun b102=>?_
 refine GL.eff (e_appN (k:=.u8) (n:=dn) (m:=1) (ys:=[c1]) 3 rfl rfl rfl rfl el_22 rfl rfl hg hp (Src.ofL 0 0 rfl rfl rfl) Oq rfl rfl) rfl ?_
 rintro _ _ ⟨q103,b104,o105,cs106,cap107,hg108,hc109,ht110,rfl,rfl⟩
 refine Ya ?_
 refine GL.nil (GQ.blockN ?_)
 refine GQ.pick [1,2] rfl ?_
 exact Zb ⟨s100,(P++[c1]),t1,_,q103,b104,o105,cs106,cap107,rfl,hR101,by rw[htx,e1];simp,⟨Oz,Om⟩,hg108,hc109,ht110,rfl,rfl⟩ (hs:=rfl)
 refine Ytx (Zk 0 1 ag_5) ?_ ?_
 refine Ytx (Zk 0 0 ag_81) ?_ ?_
 obtain⟨n111,p112,hpp112,hep112,hvp112,hcp112,hap112,hbp112,hrp112,htp112,hN113⟩:=hR52.get hT hb Om
 refine Ztcc [0] [] (k_peek (Vs bi (so+k) len cap) _ b3 0 none s51 Oa L Om Om hpp112) rfl ?_ ?_
 refine Yty (y_congr (ZandNb p112 2047) (congrArg (fun q:Nat=>Value.int .u16 (q:Int)) (and_low (m:=p112) (k:=11) Om))) ?_
 refine Yty (Zx (to+p112) p112 se_81) ?_
 refine Ytx (r_ldar 1 p112 rfl rfl rfl ag_115 sz_115 Oe (nats_take1E Om hep112) rfl) ?_ ?_
 refine GT.eff (Zal zc_115) rfl rfl ?_ GT.stop
 rintro _ _ ⟨b114,rfl,rfl⟩
 refine Ytt (Zsw 0 sz_115) ?_
 refine GT.nil (GQ.thenN (Y5 ?_))
 refine Yy (Zf fo_115_0) ?_
 refine Yr (Zl 0 0 ag_78) ?_
 refine Yy (Zq n111 (ZcvWa (n111+256*c1) un_78 un_5)) ?_
 refine Y2 ?_
 refine Zcp [1] [] (Con.some' (fun s'=>RdT xs k len cd S s' t1∧s'.rd=s51.rd+n111∧s'.off=s51.off) (c_advance_Shifted (Vs bi (so+k) len cap) _ b3 0 none s51 Oa n111 Om) ⟨hN113,adv_rd Om,rfl⟩) rfl ?_
 rintro _ _ ⟨rfl,s115,⟨hR116,hds115,hos115⟩,rfl⟩
 have hks115:=hR116.pos.ok
 have hls115:=hR116.left
 have hvs115:=hks115.val
 refine Y2 ?_
 refine Yy (Zq (tN cd t1) (ZsubNa (tN cd t) n111)) ?_
 refine Y1 ?_
 refine Yy (Zf fo_115_0) ?_
 refine Yr (Zl 1 0 ag_78) ?_
 refine Yy (Zq c1 (ZshrNb (n111+256*c1) 8)) ?_
 refine Yy (ZcvNa c1 un_78 un_5) ?_
 refine Ze (e_bs (ps:=[(0,.tmp 327)]) (pv:=[(0,Va c1)]) (vs:=[Va c1]) 1 rfl ⟨rfl,rfl⟩ el_22 Od Ov rfl rfl) fun b117=>?_
 refine GL.eff (e_appN (k:=.u8) (n:=dn) (m:=1) (ys:=[c1]) 3 rfl rfl rfl rfl el_22 rfl rfl hg hp (Src.ofL 0 0 rfl rfl rfl) Oq rfl rfl) rfl ?_
 rintro _ _ ⟨q118,b119,o120,cs121,cap122,hg123,hc124,ht125,rfl,rfl⟩
 refine Ya ?_
 refine GL.nil (GQ.blockN ?_)
 refine GQ.pick [1,2] rfl ?_
 exact Zb ⟨s115,(P++[c1]),t1,_,q118,b119,o120,cs121,cap122,rfl,hR116,by rw[htx,e1];simp,⟨Oz,Om⟩,hg123,hc124,ht125,rfl,rfl⟩ (hs:=rfl)
 refine GT.eff (Zal zc_115) rfl rfl ?_ GT.stop
 rintro _ _ ⟨b126,rfl,rfl⟩
 refine Ytu (r_ldar 1 p112 rfl rfl rfl ag_115 sz_115 Oe (nats_take1E Om hep112) rfl) ?_
 refine Ytt (Zsw 0 sz_115) ?_
 refine GT.nil (GQ.thenN (Y5 ?_))
 refine Yy (Zf fo_115_0) ?_
 refine Yr (Zl 0 0 ag_78) ?_
 refine Yy (Zq n111 (ZcvWa (n111+256*c1) un_78 un_5)) ?_
 refine Y2 ?_
 refine Zcp [1] [] (Con.some' (fun s'=>RdT xs k len cd S s' t1∧s'.rd=s51.rd+n111∧s'.off=s51.off) (c_advance_Shifted (Vs bi (so+k) len cap) _ b3 0 none s51 Oa n111 Om) ⟨hN113,adv_rd Om,rfl⟩) rfl ?_
 rintro _ _ ⟨rfl,s127,⟨hR128,hds127,hos127⟩,rfl⟩
 have hks127:=hR128.pos.ok
 have hls127:=hR128.left
 have hvs127:=hks127.val
 refine Y2 ?_
 refine Yy (Zq (tN cd t1) (ZsubNa (tN cd t) n111)) ?_
 refine Y1 ?_
 refine Yy (Zf fo_115_0) ?_
 refine Yr (Zl 1 0 ag_78) ?_
 refine Yy (Zq c1 (ZshrNb (n111+256*c1) 8)) ?_
 refine Yy (ZcvNa c1 un_78 un_5) ?_
 refine Ze (e_bs (ps:=[(0,.tmp 327)]) (pv:=[(0,Va c1)]) (vs:=[Va c1]) 1 rfl ⟨rfl,rfl⟩ el_22 Od Ov rfl rfl) fun b129=>?_
 refine GL.eff (e_appN (k:=.u8) (n:=dn) (m:=1) (ys:=[c1]) 3 rfl rfl rfl rfl el_22 rfl rfl hg hp (Src.ofL 0 0 rfl rfl rfl) Oq rfl rfl) rfl ?_
 rintro _ _ ⟨q130,b131,o132,cs133,cap134,hg135,hc136,ht137,rfl,rfl⟩
 refine Ya ?_
 refine GL.nil (GQ.blockN ?_)
 refine GQ.pick [1,2] rfl ?_
 exact Zb ⟨s127,(P++[c1]),t1,_,q130,b131,o132,cs133,cap134,rfl,hR128,by rw[htx,e1];simp,⟨Oz,Om⟩,hg135,hc136,ht137,rfl,rfl⟩ (hs:=rfl)
 refine GT.eff (Zal zc_115) rfl rfl ?_ GT.stop
 rintro _ _ ⟨b138,rfl,rfl⟩
 obtain⟨n139,p140,hpp140,hep140,hvp140,hcp140,hap140,hbp140,hrp140,htp140,hN141⟩:=hR52.get hT hb Om
 refine Ztcc [1] [] (k_peek (Vs bi (so+k) len cap) _ b3 0 none s51 Oa L Om Om hpp140) rfl ?_ GT.stop
 refine Yty (y_congr (ZandNb p140 2047) (congrArg (fun q:Nat=>Value.int .u16 (q:Int)) (and_low (m:=p140) (k:=11) Om))) ?_
 refine Yty (Zx (to+p140) p140 se_81) ?_
 refine Ytu (r_ldar 1 p140 rfl rfl rfl ag_115 sz_115 Oe (nats_take1E Om hep140) rfl) ?_
 refine Ytt (Zsw 1 sz_115) ?_
 refine GT.nil (GQ.thenN (Y5 ?_))
 refine Yy (Zf fo_115_0) ?_
 refine Yr (Zl 1 0 ag_78) ?_
 refine Yy (Zq n139 (ZcvWa (n139+256*c1) un_78 un_5)) ?_
 refine Y2 ?_
 refine Zcp [0] [] (Con.some' (fun s'=>RdT xs k len cd S s' t1∧s'.rd=s51.rd+n139∧s'.off=s51.off) (c_advance_Shifted (Vs bi (so+k) len cap) _ b3 0 none s51 Oa n139 Om) ⟨hN141,adv_rd Om,rfl⟩) rfl ?_
 rintro _ _ ⟨rfl,s142,⟨hR143,hds142,hos142⟩,rfl⟩
 have hks142:=hR143.pos.ok
 have hls142:=hR143.left
 have hvs142:=hks142.val
 refine Y2 ?_
 refine Yy (Zq (tN cd t1) (ZsubNa (tN cd t) n139)) ?_
 refine Y1 ?_
 refine Yy (Zf fo_115_0) ?_
 refine Yr (Zl 1 0 ag_78) ?_
 refine Yy (Zq c1 (ZshrNb (n139+256*c1) 8)) ?_
 refine Yy (ZcvNa c1 un_78 un_5) ?_
 refine Ze (e_bs (ps:=[(0,.tmp 327)]) (pv:=[(0,Va c1)]) (vs:=[Va c1]) 1 rfl ⟨rfl,rfl⟩ el_22 Od Ov rfl rfl) fun b144=>?_
 refine GL.eff (e_appN (k:=.u8) (n:=dn) (m:=1) (ys:=[c1]) 3 rfl rfl rfl rfl el_22 rfl rfl hg hp (Src.ofL 0 0 rfl rfl rfl) Oq rfl rfl) rfl ?_
 rintro _ _ ⟨q145,b146,o147,cs148,cap149,hg150,hc151,ht152,rfl,rfl⟩
 refine Ya ?_
 refine GL.nil (GQ.blockN ?_)
 refine GQ.pick [1,2] rfl ?_
 exact Zb ⟨s142,(P++[c1]),t1,_,q145,b146,o147,cs148,cap149,rfl,hR143,by rw[htx,e1];simp,⟨Oz,Om⟩,hg150,hc151,ht152,rfl,rfl⟩ (hs:=rfl)
 obtain⟨n153,p154,hpp154,hep154,hvp154,hcp154,hap154,hbp154,hrp154,htp154,hN155⟩:=hR52.get hT hb Om
 refine Ztcc [0] [] (k_peek (Vs bi (so+k) len cap) _ b3 0 none s51 Oa L Om Om hpp154) rfl ?_ ?_
 refine Yty (y_congr (ZandNb p154 2047) (congrArg (fun q:Nat=>Value.int .u16 (q:Int)) (and_low (m:=p154) (k:=11) Om))) ?_
 refine Ytx (Zk 0 0 ag_81) ?_ ?_
 refine Yty (Zx (to+p154) p154 se_81) ?_
 refine Ytx (r_ldar 1 p154 rfl rfl rfl ag_115 sz_115 Oe (nats_take1E Om hep154) rfl) ?_ ?_
 refine GT.eff (Zal zc_115) rfl rfl ?_ GT.stop
 rintro _ _ ⟨b156,rfl,rfl⟩
 refine Ytt (Zsw 0 sz_115) ?_
 refine GT.nil (GQ.thenN (Y5 ?_))
 refine Yy (Zf fo_115_0) ?_
 refine Yr (Zl 0 0 ag_78) ?_
 refine Yy (Zq n153 (ZcvWa (n153+256*c1) un_78 un_5)) ?_
 refine Y2 ?_
 refine Zcp [1] [] (Con.some' (fun s'=>RdT xs k len cd S s' t1∧s'.rd=s51.rd+n153∧s'.off=s51.off) (c_advance_Shifted (Vs bi (so+k) len cap) _ b3 0 none s51 Oa n153 Om) ⟨hN155,adv_rd Om,rfl⟩) rfl ?_
 rintro _ _ ⟨rfl,s157,⟨hR158,hds157,hos157⟩,rfl⟩
 have hks157:=hR158.pos.ok
 have hls157:=hR158.left
 have hvs157:=hks157.val
 refine Y2 ?_
 refine Yy (Zq (tN cd t1) (ZsubNa (tN cd t) n153)) ?_
 refine Y1 ?_
 refine Yy (Zf fo_115_0) ?_
 refine Yr (Zl 1 0 ag_78) ?_
 refine Yy (Zq c1 (ZshrNb (n153+256*c1) 8)) ?_
 refine Yy (ZcvNa c1 un_78 un_5) ?_
 refine Ze (e_bs (ps:=[(0,.tmp 327)]) (pv:=[(0,Va c1)]) (vs:=[Va c1]) 1 rfl ⟨rfl,rfl⟩ el_22 Od Ov rfl rfl) fun b159=>?_
 refine GL.eff (e_appN (k:=.u8) (n:=dn) (m:=1) (ys:=[c1]) 3 rfl rfl rfl rfl el_22 rfl rfl hg hp (Src.ofL 0 0 rfl rfl rfl) Oq rfl rfl) rfl ?_
 rintro _ _ ⟨q160,b161,o162,cs163,cap164,hg165,hc166,ht167,rfl,rfl⟩
 refine Ya ?_
 refine GL.nil (GQ.blockN ?_)
 refine GQ.pick [1,2] rfl ?_
 exact Zb ⟨s157,(P++[c1]),t1,_,q160,b161,o162,cs163,cap164,rfl,hR158,by rw[htx,e1];simp,⟨Oz,Om⟩,hg165,hc166,ht167,rfl,rfl⟩ (hs:=rfl)
 refine GT.eff (Zal zc_115) rfl rfl ?_ GT.stop
 rintro _ _ ⟨b168,rfl,rfl⟩
 refine Ytu (r_ldar 1 p154 rfl rfl rfl ag_115 sz_115 Oe (nats_take1E Om hep154) rfl) ?_
 refine Ytt (Zsw 0 sz_115) ?_
 refine GT.nil (GQ.thenN (Y5 ?_))
 refine Yy (Zf fo_115_0) ?_
 refine Yr (Zl 0 0 ag_78) ?_
 refine Yy (Zq n153 (ZcvWa (n153+256*c1) un_78 un_5)) ?_
 refine Y2 ?_
 refine Zcp [1] [] (Con.some' (fun s'=>RdT xs k len cd S s' t1∧s'.rd=s51.rd+n153∧s'.off=s51.off) (c_advance_Shifted (Vs bi (so+k) len cap) _ b3 0 none s51 Oa n153 Om) ⟨hN155,adv_rd Om,rfl⟩) rfl ?_
 rintro _ _ ⟨rfl,s169,⟨hR170,hds169,hos169⟩,rfl⟩
 have hks169:=hR170.pos.ok
 have hls169:=hR170.left
 have hvs169:=hks169.val
 refine Y2 ?_
 refine Yy (Zq (tN cd t1) (ZsubNa (tN cd t) n153)) ?_
 refine Y1 ?_
 refine Yy (Zf fo_115_0) ?_
 refine Yr (Zl 1 0 ag_78) ?_
 refine Yy (Zq c1 (ZshrNb (n153+256*c1) 8)) ?_
 refine Yy (ZcvNa c1 un_78 un_5) ?_
 refine Ze (e_bs (ps:=[(0,.tmp 327)]) (pv:=[(0,Va c1)]) (vs:=[Va c1]) 1 rfl ⟨rfl,rfl⟩ el_22 Od Ov rfl rfl) fun b171=>?_
 refine GL.eff (e_appN (k:=.u8) (n:=dn) (m:=1) (ys:=[c1]) 3 rfl rfl rfl rfl el_22 rfl rfl hg hp (Src.ofL 0 0 rfl rfl rfl) Oq rfl rfl) rfl ?_
 rintro _ _ ⟨q172,b173,o174,cs175,cap176,hg177,hc178,ht179,rfl,rfl⟩
 refine Ya ?_
 refine GL.nil (GQ.blockN ?_)
 refine GQ.pick [1,2] rfl ?_
 exact Zb ⟨s169,(P++[c1]),t1,_,q172,b173,o174,cs175,cap176,rfl,hR170,by rw[htx,e1];simp,⟨Oz,Om⟩,hg177,hc178,ht179,rfl,rfl⟩ (hs:=rfl)
 refine GT.eff (Zal zc_115) rfl rfl ?_ GT.stop
 rintro _ _ ⟨b180,rfl,rfl⟩
 refine Ytu (Zk 0 0 ag_81) ?_
 refine Yty (Zx (to+p154) p154 se_81) ?_
 refine Ytu (r_ldar 1 p154 rfl rfl rfl ag_115 sz_115 Oe (nats_take1E Om hep154) rfl) ?_
 refine Ytt (Zsw 0 sz_115) ?_
 refine GT.nil (GQ.thenN (Y5 ?_))
 refine Yy (Zf fo_115_0) ?_
 refine Yr (Zl 0 0 ag_78) ?_
 refine Yy (Zq n153 (ZcvWa (n153+256*c1) un_78 un_5)) ?_
 refine Y2 ?_
 refine Zcp [1] [] (Con.some' (fun s'=>RdT xs k len cd S s' t1∧s'.rd=s51.rd+n153∧s'.off=s51.off) (c_advance_Shifted (Vs bi (so+k) len cap) _ b3 0 none s51 Oa n153 Om) ⟨hN155,adv_rd Om,rfl⟩) rfl ?_
 rintro _ _ ⟨rfl,s181,⟨hR182,hds181,hos181⟩,rfl⟩
 have hks181:=hR182.pos.ok
 have hls181:=hR182.left
 have hvs181:=hks181.val
 refine Y2 ?_
 refine Yy (Zq (tN cd t1) (ZsubNa (tN cd t) n153)) ?_
 refine Y1 ?_
 refine Yy (Zf fo_115_0) ?_
 refine Yr (Zl 1 0 ag_78) ?_
 refine Yy (Zq c1 (ZshrNb (n153+256*c1) 8)) ?_
 refine Yy (ZcvNa c1 un_78 un_5) ?_
 refine Ze (e_bs (ps:=[(0,.tmp 327)]) (pv:=[(0,Va c1)]) (vs:=[Va c1]) 1 rfl ⟨rfl,rfl⟩ el_22 Od Ov rfl rfl) fun b183=>?_
 refine GL.eff (e_appN (k:=.u8) (n:=dn) (m:=1) (ys:=[c1]) 3 rfl rfl rfl rfl el_22 rfl rfl hg hp (Src.ofL 0 0 rfl rfl rfl) Oq rfl rfl) rfl ?_
 rintro _ _ ⟨q184,b185,o186,cs187,cap188,hg189,hc190,ht191,rfl,rfl⟩
 refine Ya ?_
 refine GL.nil (GQ.blockN ?_)
 refine GQ.pick [1,2] rfl ?_
 exact Zb ⟨s181,(P++[c1]),t1,_,q184,b185,o186,cs187,cap188,rfl,hR182,by rw[htx,e1];simp,⟨Oz,Om⟩,hg189,hc190,ht191,rfl,rfl⟩ (hs:=rfl)
 refine GT.eff (Zal zc_115) rfl rfl ?_ GT.stop
 rintro _ _ ⟨b192,rfl,rfl⟩
 refine Ytx (Zk 0 0 ag_81) ?_ ?_
 obtain⟨n193,p194,hpp194,hep194,hvp194,hcp194,hap194,hbp194,hrp194,htp194,hN195⟩:=hR52.get hT hb Om
 refine Ztcc [1] [] (k_peek (Vs bi (so+k) len cap) _ b3 0 none s51 Oa L Om Om hpp194) rfl ?_ GT.stop
 refine Yty (y_congr (ZandNb p194 2047) (congrArg (fun q:Nat=>Value.int .u16 (q:Int)) (and_low (m:=p194) (k:=11) Om))) ?_
 refine Yty (Zx (to+p194) p194 se_81) ?_
 refine Ytu (r_ldar 1 p194 rfl rfl rfl ag_115 sz_115 Oe (nats_take1E Om hep194) rfl) ?_
 refine Ytt (Zsw 1 sz_115) ?_
 refine GT.nil (GQ.thenN (Y5 ?_))
 refine Yy (Zf fo_115_0) ?_
 refine Yr (Zl 1 0 ag_78) ?_
 refine Yy (Zq n193 (ZcvWa (n193+256*c1) un_78 un_5)) ?_
 refine Y2 ?_
 refine Zcp [0] [] (Con.some' (fun s'=>RdT xs k len cd S s' t1∧s'.rd=s51.rd+n193∧s'.off=s51.off) (c_advance_Shifted (Vs bi (so+k) len cap) _ b3 0 none s51 Oa n193 Om) ⟨hN195,adv_rd Om,rfl⟩) rfl ?_
 rintro _ _ ⟨rfl,s196,⟨hR197,hds196,hos196⟩,rfl⟩
 have hks196:=hR197.pos.ok
 have hls196:=hR197.left
 have hvs196:=hks196.val
 refine Y2 ?_
 refine Yy (Zq (tN cd t1) (ZsubNa (tN cd t) n193)) ?_
 refine Y1 ?_
 refine Yy (Zf fo_115_0) ?_
 refine Yr (Zl 1 0 ag_78) ?_
 refine Yy (Zq c1 (ZshrNb (n193+256*c1) 8)) ?_
 refine Yy (ZcvNa c1 un_78 un_5) ?_
 refine Ze (e_bs (ps:=[(0,.tmp 327)]) (pv:=[(0,Va c1)]) (vs:=[Va c1]) 1 rfl ⟨rfl,rfl⟩ el_22 Od Ov rfl rfl) fun b198=>?_
 refine GL.eff (e_appN (k:=.u8) (n:=dn) (m:=1) (ys:=[c1]) 3 rfl rfl rfl rfl el_22 rfl rfl hg hp (Src.ofL 0 0 rfl rfl rfl) Oq rfl rfl) rfl ?_
 rintro _ _ ⟨q199,b200,o201,cs202,cap203,hg204,hc205,ht206,rfl,rfl⟩
 refine Ya ?_
 refine GL.nil (GQ.blockN ?_)
 refine GQ.pick [1,2] rfl ?_
 exact Zb ⟨s196,(P++[c1]),t1,_,q199,b200,o201,cs202,cap203,rfl,hR197,by rw[htx,e1];simp,⟨Oz,Om⟩,hg204,hc205,ht206,rfl,rfl⟩ (hs:=rfl)
 obtain⟨n207,p208,hpp208,hep208,hvp208,hcp208,hap208,hbp208,hrp208,htp208,hN209⟩:=hR52.get hT hb Om
 refine Ztcc [1] [] (k_peek (Vs bi (so+k) len cap) _ b3 0 none s51 Oa L Om Om hpp208) rfl ?_ GT.stop
 refine Yty (y_congr (ZandNb p208 2047) (congrArg (fun q:Nat=>Value.int .u16 (q:Int)) (and_low (m:=p208) (k:=11) Om))) ?_
 refine Ytu (Zk 0 0 ag_81) ?_
 refine Yty (Zx (to+p208) p208 se_81) ?_
 refine Ytu (r_ldar 1 p208 rfl rfl rfl ag_115 sz_115 Oe (nats_take1E Om hep208) rfl) ?_
 refine Ytt (Zsw 1 sz_115) ?_
 refine GT.nil (GQ.thenN (Y5 ?_))
 refine Yy (Zf fo_115_0) ?_
 refine Yr (Zl 1 0 ag_78) ?_
 refine Yy (Zq n207 (ZcvWa (n207+256*c1) un_78 un_5)) ?_
 refine Y2 ?_
 refine Zcp [0] [] (Con.some' (fun s'=>RdT xs k len cd S s' t1∧s'.rd=s51.rd+n207∧s'.off=s51.off) (c_advance_Shifted (Vs bi (so+k) len cap) _ b3 0 none s51 Oa n207 Om) ⟨hN209,adv_rd Om,rfl⟩) rfl ?_
 rintro _ _ ⟨rfl,s210,⟨hR211,hds210,hos210⟩,rfl⟩
 have hks210:=hR211.pos.ok
 have hls210:=hR211.left
 have hvs210:=hks210.val
 refine Y2 ?_
 refine Yy (Zq (tN cd t1) (ZsubNa (tN cd t) n207)) ?_
 refine Y1 ?_
 refine Yy (Zf fo_115_0) ?_
 refine Yr (Zl 1 0 ag_78) ?_
 refine Yy (Zq c1 (ZshrNb (n207+256*c1) 8)) ?_
 refine Yy (ZcvNa c1 un_78 un_5) ?_
 refine Ze (e_bs (ps:=[(0,.tmp 327)]) (pv:=[(0,Va c1)]) (vs:=[Va c1]) 1 rfl ⟨rfl,rfl⟩ el_22 Od Ov rfl rfl) fun b212=>?_
 refine GL.eff (e_appN (k:=.u8) (n:=dn) (m:=1) (ys:=[c1]) 3 rfl rfl rfl rfl el_22 rfl rfl hg hp (Src.ofL 0 0 rfl rfl rfl) Oq rfl rfl) rfl ?_
 rintro _ _ ⟨q213,b214,o215,cs216,cap217,hg218,hc219,ht220,rfl,rfl⟩
 refine Ya ?_
 refine GL.nil (GQ.blockN ?_)
 refine GQ.pick [1,2] rfl ?_
 exact Zb ⟨s210,(P++[c1]),t1,_,q213,b214,o215,cs216,cap217,rfl,hR211,by rw[htx,e1];simp,⟨Oz,Om⟩,hg218,hc219,ht220,rfl,rfl⟩ (hs:=rfl)
 refine GT.eff (Zal zc_115) rfl rfl ?_ GT.stop
 rintro _ _ ⟨b221,rfl,rfl⟩
 refine Ytx (Zk 0 0 ag_81) ?_ ?_
 refine Ytu (Zk 0 1 ag_5) ?_
 obtain⟨n222,p223,hpp223,hep223,hvp223,hcp223,hap223,hbp223,hrp223,htp223,hN224⟩:=hR52.get hT hb Om
 refine Ztcc [1] [] (k_peek (Vs bi (so+k) len cap) _ b3 0 none s51 Oa L Om Om hpp223) rfl ?_ GT.stop
 refine Yty (y_congr (ZandNb p223 2047) (congrArg (fun q:Nat=>Value.int .u16 (q:Int)) (and_low (m:=p223) (k:=11) Om))) ?_
 refine Yty (Zx (to+p223) p223 se_81) ?_
 refine Ytu (r_ldar 1 p223 rfl rfl rfl ag_115 sz_115 Oe (nats_take1E Om hep223) rfl) ?_
 refine Ytt (Zsw 1 sz_115) ?_
 refine GT.nil (GQ.thenN (Y5 ?_))
 refine Yy (Zf fo_115_0) ?_
 refine Yr (Zl 1 0 ag_78) ?_
 refine Yy (Zq n222 (ZcvWa (n222+256*c1) un_78 un_5)) ?_
 refine Y2 ?_
 refine Zcp [0] [] (Con.some' (fun s'=>RdT xs k len cd S s' t1∧s'.rd=s51.rd+n222∧s'.off=s51.off) (c_advance_Shifted (Vs bi (so+k) len cap) _ b3 0 none s51 Oa n222 Om) ⟨hN224,adv_rd Om,rfl⟩) rfl ?_
 rintro _ _ ⟨rfl,s225,⟨hR226,hds225,hos225⟩,rfl⟩
 have hks225:=hR226.pos.ok
 have hls225:=hR226.left
 have hvs225:=hks225.val
 refine Y2 ?_
 refine Yy (Zq (tN cd t1) (ZsubNa (tN cd t) n222)) ?_
 refine Y1 ?_
 refine Yy (Zf fo_115_0) ?_
 refine Yr (Zl 1 0 ag_78) ?_
 refine Yy (Zq c1 (ZshrNb (n222+256*c1) 8)) ?_
 refine Yy (ZcvNa c1 un_78 un_5) ?_
 refine Ze (e_bs (ps:=[(0,.tmp 327)]) (pv:=[(0,Va c1)]) (vs:=[Va c1]) 1 rfl ⟨rfl,rfl⟩ el_22 Od Ov rfl rfl) fun b227=>?_
 refine GL.eff (e_appN (k:=.u8) (n:=dn) (m:=1) (ys:=[c1]) 3 rfl rfl rfl rfl el_22 rfl rfl hg hp (Src.ofL 0 0 rfl rfl rfl) Oq rfl rfl) rfl ?_
 rintro _ _ ⟨q228,b229,o230,cs231,cap232,hg233,hc234,ht235,rfl,rfl⟩
 refine Ya ?_
 refine GL.nil (GQ.blockN ?_)
 refine GQ.pick [1,2] rfl ?_
 exact Zb ⟨s225,(P++[c1]),t1,_,q228,b229,o230,cs231,cap232,rfl,hR226,by rw[htx,e1];simp,⟨Oz,Om⟩,hg233,hc234,ht235,rfl,rfl⟩ (hs:=rfl)
 refine Ytu (Zk 0 1 ag_5) ?_
 refine Ytx (Zk 0 0 ag_81) ?_ ?_
 obtain⟨n236,p237,hpp237,hep237,hvp237,hcp237,hap237,hbp237,hrp237,htp237,hN238⟩:=hR52.get hT hb Om
 refine Ztcc [1] [] (k_peek (Vs bi (so+k) len cap) _ b3 0 none s51 Oa L Om Om hpp237) rfl ?_ GT.stop
 refine Yty (y_congr (ZandNb p237 2047) (congrArg (fun q:Nat=>Value.int .u16 (q:Int)) (and_low (m:=p237) (k:=11) Om))) ?_
 refine Yty (Zx (to+p237) p237 se_81) ?_
 refine Ytu (r_ldar 1 p237 rfl rfl rfl ag_115 sz_115 Oe (nats_take1E Om hep237) rfl) ?_
 refine Ytt (Zsw 1 sz_115) ?_
 refine GT.nil (GQ.thenN (Y5 ?_))
 refine Yy (Zf fo_115_0) ?_
 refine Yr (Zl 1 0 ag_78) ?_
 refine Yy (Zq n236 (ZcvWa (n236+256*c1) un_78 un_5)) ?_
 refine Y2 ?_
 refine Zcp [0] [] (Con.some' (fun s'=>RdT xs k len cd S s' t1∧s'.rd=s51.rd+n236∧s'.off=s51.off) (c_advance_Shifted (Vs bi (so+k) len cap) _ b3 0 none s51 Oa n236 Om) ⟨hN238,adv_rd Om,rfl⟩) rfl ?_
 rintro _ _ ⟨rfl,s239,⟨hR240,hds239,hos239⟩,rfl⟩
 have hks239:=hR240.pos.ok
 have hls239:=hR240.left
 have hvs239:=hks239.val
 refine Y2 ?_
 refine Yy (Zq (tN cd t1) (ZsubNa (tN cd t) n236)) ?_
 refine Y1 ?_
 refine Yy (Zf fo_115_0) ?_
 refine Yr (Zl 1 0 ag_78) ?_
 refine Yy (Zq c1 (ZshrNb (n236+256*c1) 8)) ?_
 refine Yy (ZcvNa c1 un_78 un_5) ?_
 refine Ze (e_bs (ps:=[(0,.tmp 327)]) (pv:=[(0,Va c1)]) (vs:=[Va c1]) 1 rfl ⟨rfl,rfl⟩ el_22 Od Ov rfl rfl) fun b241=>?_
 refine GL.eff (e_appN (k:=.u8) (n:=dn) (m:=1) (ys:=[c1]) 3 rfl rfl rfl rfl el_22 rfl rfl hg hp (Src.ofL 0 0 rfl rfl rfl) Oq rfl rfl) rfl ?_
 rintro _ _ ⟨q242,b243,o244,cs245,cap246,hg247,hc248,ht249,rfl,rfl⟩
 refine Ya ?_
 refine GL.nil (GQ.blockN ?_)
 refine GQ.pick [1,2] rfl ?_
 exact Zb ⟨s239,(P++[c1]),t1,_,q242,b243,o244,cs245,cap246,rfl,hR240,by rw[htx,e1];simp,⟨Oz,Om⟩,hg247,hc248,ht249,rfl,rfl⟩ (hs:=rfl)
 obtain⟨n250,p251,hpp251,hep251,hvp251,hcp251,hap251,hbp251,hrp251,htp251,hN252⟩:=hR52.get hT hb Om
 refine Ztcc [1] [] (k_peek (Vs bi (so+k) len cap) _ b3 0 none s51 Oa L Om Om hpp251) rfl ?_ GT.stop
 refine Yty (y_congr (ZandNb p251 2047) (congrArg (fun q:Nat=>Value.int .u16 (q:Int)) (and_low (m:=p251) (k:=11) Om))) ?_
 refine Ytu (Zk 0 0 ag_81) ?_
 refine Yty (Zx (to+p251) p251 se_81) ?_
 refine Ytu (r_ldar 1 p251 rfl rfl rfl ag_115 sz_115 Oe (nats_take1E Om hep251) rfl) ?_
 refine Ytt (Zsw 1 sz_115) ?_
 refine GT.nil (GQ.thenN (Y5 ?_))
 refine Yy (Zf fo_115_0) ?_
 refine Yr (Zl 1 0 ag_78) ?_
 refine Yy (Zq n250 (ZcvWa (n250+256*c1) un_78 un_5)) ?_
 refine Y2 ?_
 refine Zcp [0] [] (Con.some' (fun s'=>RdT xs k len cd S s' t1∧s'.rd=s51.rd+n250∧s'.off=s51.off) (c_advance_Shifted (Vs bi (so+k) len cap) _ b3 0 none s51 Oa n250 Om) ⟨hN252,adv_rd Om,rfl⟩) rfl ?_
 rintro _ _ ⟨rfl,s253,⟨hR254,hds253,hos253⟩,rfl⟩
 have hks253:=hR254.pos.ok
 have hls253:=hR254.left
 have hvs253:=hks253.val
 refine Y2 ?_
 refine Yy (Zq (tN cd t1) (ZsubNa (tN cd t) n250)) ?_
 refine Y1 ?_
 refine Yy (Zf fo_115_0) ?_
 refine Yr (Zl 1 0 ag_78) ?_
 refine Yy (Zq c1 (ZshrNb (n250+256*c1) 8)) ?_
 refine Yy (ZcvNa c1 un_78 un_5) ?_
 refine Ze (e_bs (ps:=[(0,.tmp 327)]) (pv:=[(0,Va c1)]) (vs:=[Va c1]) 1 rfl ⟨rfl,rfl⟩ el_22 Od Ov rfl rfl) fun b255=>?_
 refine GL.eff (e_appN (k:=.u8) (n:=dn) (m:=1) (ys:=[c1]) 3 rfl rfl rfl rfl el_22 rfl rfl hg hp (Src.ofL 0 0 rfl rfl rfl) Oq rfl rfl) rfl ?_
 rintro _ _ ⟨q256,b257,o258,cs259,cap260,hg261,hc262,ht263,rfl,rfl⟩
 refine Ya ?_
 refine GL.nil (GQ.blockN ?_)
 refine GQ.pick [1,2] rfl ?_
 exact Zb ⟨s253,(P++[c1]),t1,_,q256,b257,o258,cs259,cap260,rfl,hR254,by rw[htx,e1];simp,⟨Oz,Om⟩,hg261,hc262,ht263,rfl,rfl⟩ (hs:=rfl)
 refine G.exit (GQ.thenE (GQ.thenE (GQ.blockE (GQ.thenN (Y5 ?_)))))
 refine Yy (Zf fo_119_2) ?_
 refine Yr (Zk 0 2 ag_117) ?_
 refine Yy (y_mi rfl rfl un_124 rfl) ?_
 refine Zcc [] [] (c_poolPut _ _) rfl ?_
 refine Z4 ?_
 have h0:s.off=0:=Om
 have h64:s.rd=64:=Om
 have ht0:t=[]:=List.eq_nil_of_length_eq_zero Om
 have hPt:P=text:=by rw[htx,ht0];simp
 have hdl2:text.length=P.length:=by rw[←hPt]
 refine YG ?_
 refine Zcc [0] [] (c_close_Shifted (Vs bi (so+k) len cap) _ b3 0 none s Oa Oa Oa Om) rfl ?_
 refine Ya ?_
 refine Zn (G.ret ?_)
 repeat first|refine ZR ?_|refine ZB ?_
 exact ret2 [1] rfl rfl rfl rfl (⟨q,bq,oq,cs,capd,by rw[show text.length=dn by omega],hg,Om,by rw[show text.length=dn by omega, ←hPt];exact hp,rfl⟩)
theorem k_peekB (iv:Value) (len b o:Nat) (sh:Shp) (s:BR) (h:s.OK len) (L:Nat) {p:Nat} (hL:L=8) (hp:s.val/2^(64-L)=p):
    Con Tryz.prog 70 [Vp b o] [⟨b,o,brC iv s,sh⟩] [] (fun v l'=>v=Va p∧l'=[⟨b,o,brC iv s,sh⟩]):=
  (c_peek_Bytes iv len b o sh s h).mono fun v l' hh=>⟨hh.1.trans (congrArg (fun q:Nat=>Value.int .u8 (q:Int)) (by rw[←hp,hL];have:=h.val;omega)),hh.2⟩
set_option maxHeartbeats 4000000 in
theorem c_D1X_8 (bi so:Nat) (shi:Shp) (xs:List Nat) (k len cap:Nat) (hc:len≤cap) (hk:k+len≤xs.length) (hz:xs.length≤1152921504606846976) (hb:Bytes xs)
    (bt to tcap:Nat) (sht:Shp) (dt:List Nat) (hdl:dt.length=2048) (htc:2048≤tcap) (L:Nat) (cd:Nat→Nat × Nat) (S:Nat→Prop) (hT:Tab dt L cd S)
    (be eo:Nat) (she:Shp) (dp:Value) (bd:Nat) (zs text:List Nat) (hzs:zs.length=text.length) (htl1:1≤text.length) (h48:text.length≤1073741824)
    (hlen:1≤len) (hlast:0<xs.getD (k+(len-1)) 0) (hL8:L≤8) (hR0:RdT xs k len cd S (BR.init 4 xs k len) text) (hL:L=8):Con Tryz.prog 69 [Vp be eo,Vs bd 0 0 text.length,Vs bi (so+k) len cap] [⟨bd,0,(nats .u8 zs),none⟩] [⟨be,eo,[Vs bt to 2048 tcap,Va L,dp],she⟩,⟨bt,to,(nats .u16 dt),sht⟩,⟨bi,so,(nats .u8 xs),shi⟩] (fun v l'=>∃q b o cs cap,v=.tuple #[.slice q text.length cap,.nilIface]∧GS q b o cs 1 cap∧text.length≤cap∧cs.take text.length=nats .u8 text∧l'=[⟨b,o,cs,none⟩]):=by
 refine Zi Tryz.func69 rfl fun w0=>?_
 refine G.seq ?_
 have hL1:=hT.L1
 have hLL:=pow_le hL8
 have hOK0:=hR0.pos.ok
 refine YG ?_
 refine Y2 ?_
 refine Ze (Zal zc_150) fun b1=>?_
 refine Y2 ?_
 refine Zcc [0] [3] (c_init_Bytes bi so shi xs k len cap Om Om Om Oa Om Oa b1 0 none _ _ _ _) rfl ?_
 refine Ya ?_
 refine Y3 ?_
 refine Yy (y_neNilNil rfl rfl un_52) ?_
 refine Zn (G.condF rfl (Y8 ?_))
 refine Yy (y_cap rfl rfl rfl rfl un_22) ?_
 refine Y2 ?_
 refine Yy (y_slH (hi:=0) rfl rfl rfl se_22 Om) ?_
 refine Y2 ?_
 refine Yy (Zf fo_119_0) ?_
 refine Yy (Zf fo_83_0) ?_
 refine Yr (Zk 0 0 ag_81) ?_
 refine Yy (y_slH (hi:=256) rfl rfl rfl se_81 Om) ?_
 refine Y2 ?_
 refine Zcp [] [2] (c_buffer be eo she _ _ _) rfl ?_
 rintro _ _ ⟨b2,rfl,rfl⟩
 refine Ya ?_
 refine Y2 ?_
 refine Yy (Zxa 0 0 ae_156) ?_
 refine Y2 ?_
 refine Z4 (G.block ?_)
 refine G.pick [1,0,0] rfl ?_
 refine Zo (fun n ρ l=>∃s:BR,∃P B t ys:List Nat,∃ob dn:Nat,∃q:Option Addr,∃bq oq:Nat,∃cs:List Value,∃capd:Nat,n=t.length∧(RdT xs k len cd S s t)∧(text=P++B++t)∧(ob=B.length∧ob<256∧ob%4=0∧dn=P.length)∧(ys.length=1024∧ys.take ob=B)∧(GS q bq oq cs 1 capd)∧(dn≤capd)∧(cs.take dn=nats .u8 P)∧ρ=[(0,Vp be eo),(10,Vh text.length),(8,Vp b1 0),(12,Vp b2 0),(13,Vp b2 0),(11,Vs bt to 256 tcap),(14,Va ob),(1,.slice q dn capd)]∧l=[⟨b1,0,[Vs bi (so+k) len cap,Vd s.off,Vd s.val,Va s.rd],none⟩,⟨b2,0,(nats .u8 ys),(some (156,(nats .u8 (List.replicate 1024 0)).length))⟩,⟨bq,oq,cs,none⟩]) ⟨(BR.init 4 xs k len),[],[],text,(List.replicate 1024 0),0,0,(some ⟨bd,0,none⟩),bd,0,(nats .u8 zs),text.length,rfl,hR0,rfl,⟨rfl,Od,rfl,rfl⟩,⟨Oi,rfl⟩,⟨by simp[hzs],.inl rfl⟩,Nat.zero_le _,rfl,rfl,rfl⟩ ?_ (hs:=rfl)
 rintro _ _ _ ⟨s,P,B,t,ys,ob,dn,q,bq,oq,cs,capd,rfl,hR,htx,hB,hys,hg,hc1,hp,rfl,rfl⟩
 have hk0:=hR.pos.ok
 have hv0:=hk0.val
 have hl0:=hR.left
 have hq0:=tN_le' hT hL8 hR.all
 refine Y6 ?_
 refine Yy (Zf fo_150_1) ?_
 refine Yr (Zl 0 1 ag_39) ?_
 refine Yy (Zge s.off 4) ?_
 refine Zn ?_
 refine Zc (fun h3=>?_) (fun h3=>?_)
 refine Z7 (G.block (G.seq ?_))
 obtain⟨c1,c2,c3,c4,t4,e4⟩:=four_of (t:=t) Om
 have hRc:RdT xs k len cd S s (c1::c2::c3::c4::t4):=e4▸hR
 have ht4:t.length=t4.length+4:=by rw[e4];rfl
 have htl:text.length=P.length+B.length+t.length:=by rw[htx];simp;omega
 have hys1:=hys.1
 have hset:=set4 (c1:=c1) (c2:=c2) (c3:=c3) (c4:=c4) hys.2 Om
 refine YG ?_
 refine Zcp [0] [4] (Con.some' (fun s'=>RdT xs k len cd S s' (c1::c2::c3::c4::t4)∧s'.rd≤32∧s.off≤s'.off+4∧s'.off≤s.off) (c_fillFast_Bytes bi so shi xs k len cap Om Om Om b1 0 none s Oa Oa Om Om) (RdT.fillFast hRc Oa Om)) rfl ?_
 rintro _ _ ⟨rfl,s4,⟨hR5,hfs4,hos4,hqs4⟩,rfl⟩
 have hks4:=hR5.pos.ok
 have hls4:=hR5.left
 have hvs4:=hks4.val
 refine Y2 ?_
 refine Yy (Zf fo_150_2) ?_
 refine Yr (Zl 0 2 ag_96) ?_
 obtain⟨n6,p7,hpp7,hep7,hvp7,hcp7,hap7,hbp7,hrp7,htp7,hN8⟩:=hR5.get hT hb Om
 refine Yy (Zq p7 (ZshrNd s4.val 56) (by rw[←hpp7,hL])) ?_
 refine Yy (ZcvNa p7 un_96 un_5) ?_
 refine Yy (Zx (to+p7) p7 se_81) ?_
 refine Yr (r_ldar 1 p7 rfl rfl rfl ag_115 sz_115 Oe (nats_take1E Om hep7) rfl) ?_
 refine Ze (Zal zc_115) fun b9=>?_
 refine Ys (Zsw 0 sz_115) ?_
 refine Y2 ?_
 refine Yy (Zf fo_115_0) ?_
 refine Yr (Zl 0 0 ag_78) ?_
 refine Yy (Zq n6 (ZcvWa (n6+256*c1) un_78 un_5)) ?_
 refine Zcp [1] [] (Con.some' (fun s'=>RdT xs k len cd S s' (c2::c3::c4::t4)∧s'.rd=s4.rd+n6∧s'.off=s4.off) (c_advance_Bytes (Vs bi (so+k) len cap) _ b1 0 none s4 Oa n6 Om) ⟨hN8,adv_rd Om,rfl⟩) rfl ?_
 rintro _ _ ⟨rfl,s10,⟨hR11,hds10,hos10⟩,rfl⟩
 have hks10:=hR11.pos.ok
 have hls10:=hR11.left
 have hvs10:=hks10.val
 refine Z4 ?_
 refine Zg 512 [y_0,y_1,y_2,y_3,r_4,y_5,y_6,y_7,y_8,e_9] ?_
 refine Ypa ?_
 refine Ypy (ZaddNa ob 0) ?_
 refine Ypy (Zf fo_115_0) ?_
 refine Ypr (Zl 1 0 ag_78) ?_
 refine Ypy (Zq c1 (ZshrNb (n6+256*c1) 8)) ?_
 refine Ypy (ZcvNa c1 un_78 un_5) ?_
 refine Ypy (Zxb (ob+0) (ob+0) ae_89) ?_
 refine Yps (Zsu 2 (ob+0) sz_5) ?_
 refine GP.nil (GQ.thenN (Y5 ?_))
 refine Yy (Zf fo_150_2) ?_
 refine Yr (Zl 0 2 ag_96) ?_
 obtain⟨n12,p13,hpp13,hep13,hvp13,hcp13,hap13,hbp13,hrp13,htp13,hN14⟩:=hR11.get hT hb Om
 refine Yy (Zq p13 (ZshrNd s10.val 56) (by rw[←hpp13,hL])) ?_
 refine Yy (ZcvNa p13 un_96 un_5) ?_
 refine Yy (Zx (to+p13) p13 se_81) ?_
 refine Yr (r_ldar 1 p13 rfl rfl rfl ag_115 sz_115 Oe (nats_take1E Om hep13) rfl) ?_
 refine Ys (Zsw 1 sz_115) ?_
 refine Y2 ?_
 refine Yy (Zf fo_115_0) ?_
 refine Yr (Zl 1 0 ag_78) ?_
 refine Yy (Zq n12 (ZcvWa (n12+256*c2) un_78 un_5)) ?_
 refine Zcp [0] [] (Con.some' (fun s'=>RdT xs k len cd S s' (c3::c4::t4)∧s'.rd=s10.rd+n12∧s'.off=s10.off) (c_advance_Bytes (Vs bi (so+k) len cap) _ b1 0 none s10 Oa n12 Om) ⟨hN14,adv_rd Om,rfl⟩) rfl ?_
 rintro _ _ ⟨rfl,s15,⟨hR16,hds15,hos15⟩,rfl⟩
 have hks15:=hR16.pos.ok
 have hls15:=hR16.left
 have hvs15:=hks15.val
 refine Z4 ?_
 refine Zg 512 [y_0,y_1,y_2,y_3,r_4,y_5,y_6,y_7,y_8,e_9] ?_
 refine Ypa ?_
 refine Ypy (ZaddNa ob 1) ?_
 refine Ypy (Zf fo_115_0) ?_
 refine Ypr (Zl 1 0 ag_78) ?_
 refine Ypy (Zq c2 (ZshrNb (n12+256*c2) 8)) ?_
 refine Ypy (ZcvNa c2 un_78 un_5) ?_
 refine Ypy (Zxb (ob+1) (ob+1) ae_89) ?_
 refine Yps (Zsu 2 (ob+1) sz_5) ?_
 refine GP.nil (GQ.thenN (Y5 ?_))
 refine Yy (Zf fo_150_2) ?_
 refine Yr (Zl 0 2 ag_96) ?_
 obtain⟨n17,p18,hpp18,hep18,hvp18,hcp18,hap18,hbp18,hrp18,htp18,hN19⟩:=hR16.get hT hb Om
 refine Yy (Zq p18 (ZshrNd s15.val 56) (by rw[←hpp18,hL])) ?_
 refine Yy (ZcvNa p18 un_96 un_5) ?_
 refine Yy (Zx (to+p18) p18 se_81) ?_
 refine Yr (r_ldar 1 p18 rfl rfl rfl ag_115 sz_115 Oe (nats_take1E Om hep18) rfl) ?_
 refine Ys (Zsw 1 sz_115) ?_
 refine Y2 ?_
 refine Yy (Zf fo_115_0) ?_
 refine Yr (Zl 1 0 ag_78) ?_
 refine Yy (Zq n17 (ZcvWa (n17+256*c3) un_78 un_5)) ?_
 refine Zcp [0] [] (Con.some' (fun s'=>RdT xs k len cd S s' (c4::t4)∧s'.rd=s15.rd+n17∧s'.off=s15.off) (c_advance_Bytes (Vs bi (so+k) len cap) _ b1 0 none s15 Oa n17 Om) ⟨hN19,adv_rd Om,rfl⟩) rfl ?_
 rintro _ _ ⟨rfl,s20,⟨hR21,hds20,hos20⟩,rfl⟩
 have hks20:=hR21.pos.ok
 have hls20:=hR21.left
 have hvs20:=hks20.val
 refine Z4 ?_
 refine Zg 512 [y_0,y_1,y_2,y_3,r_4,y_5,y_6,y_7,y_8,e_9] ?_
 refine Ypa ?_
 refine Ypy (ZaddNa ob 2) ?_
 refine Ypy (Zf fo_115_0) ?_
 refine Ypr (Zl 1 0 ag_78) ?_
 refine Ypy (Zq c3 (ZshrNb (n17+256*c3) 8)) ?_
 refine Ypy (ZcvNa c3 un_78 un_5) ?_
 refine Ypy (Zxb (ob+2) (ob+2) ae_89) ?_
 refine Yps (Zsu 2 (ob+2) sz_5) ?_
 refine GP.nil (GQ.thenN (Y5 ?_))
 refine Yy (Zf fo_150_2) ?_
 refine Yr (Zl 0 2 ag_96) ?_
 obtain⟨n22,p23,hpp23,hep23,hvp23,hcp23,hap23,hbp23,hrp23,htp23,hN24⟩:=hR21.get hT hb Om
 refine Yy (Zq p23 (ZshrNd s20.val 56) (by rw[←hpp23,hL])) ?_
 refine Yy (ZcvNa p23 un_96 un_5) ?_
 refine Yy (Zx (to+p23) p23 se_81) ?_
 refine Yr (r_ldar 1 p23 rfl rfl rfl ag_115 sz_115 Oe (nats_take1E Om hep23) rfl) ?_
 refine Ys (Zsw 1 sz_115) ?_
 refine Y2 ?_
 refine Yy (Zf fo_115_0) ?_
 refine Yr (Zl 1 0 ag_78) ?_
 refine Yy (Zq n22 (ZcvWa (n22+256*c4) un_78 un_5)) ?_
 refine Zcp [0] [] (Con.some' (fun s'=>RdT xs k len cd S s' t4∧s'.rd=s20.rd+n22∧s'.off=s20.off) (c_advance_Bytes (Vs bi (so+k) len cap) _ b1 0 none s20 Oa n22 Om) ⟨hN24,adv_rd Om,rfl⟩) rfl ?_
 rintro _ _ ⟨rfl,s25,⟨hR26,hds25,hos25⟩,rfl⟩
 have hks25:=hR26.pos.ok
 have hls25:=hR26.left
 have hvs25:=hks25.val
 refine Z4 ?_
 refine Zg 512 [y_0,y_1,y_2,y_3,r_4,y_5,y_6,y_7,y_8,e_9] ?_
 refine Ypa ?_
 refine Ypy (ZaddNa ob 3) ?_
 refine Ypy (Zf fo_115_0) ?_
 refine Ypr (Zl 1 0 ag_78) ?_
 refine Ypy (Zq c4 (ZshrNb (n22+256*c4) 8)) ?_
 refine Ypy (ZcvNa c4 un_78 un_5) ?_
 refine Ypy (Zxb (ob+3) (ob+3) ae_89) ?_
 refine Yps (Zsu 2 (ob+3) sz_5) ?_
 refine GP.nil (GQ.thenN (Y5 ?_))
 refine Yy (ZaddWa ob 4) ?_
 refine Y2 ?_
 refine Yy (Zeq ((ob+4)%256) 0) ?_
 refine Zn ?_
 refine Zc (fun h27=>?_) (fun h27=>?_)
 refine Y6 ?_
 refine Yy (Zlen un_22) ?_
 refine Yy (ZaddNh dn 256) ?_
 refine Yy (Zgt (dn+256) text.length) ?_
 refine Zn ?_
 refine Zc (fun h28=>?_) (fun h28=>?_)
 exfalso;omega
 refine Z7 (YG ?_)
 refine Yy (y_slA rfl rfl ae_89) ?_
 refine GL.eff (e_appN (k:=.u8) (n:=dn) (m:=256) (ys:=(((((ys.set (ob+0) c1).set (ob+1) c2).set (ob+2) c3).set (ob+3) c4).drop 0).take 256) 3 rfl rfl rfl rfl el_22 rfl rfl hg hp (Src.ofL 2 0 rfl (by first|rfl|(congr 2;omega)) (nats_src _ _ _)) Oq rfl rfl) rfl ?_
 rintro _ _ ⟨q29,b30,o31,cs32,cap33,hg34,hc35,ht36,rfl,rfl⟩
 refine Ya ?_
 refine GL.nil (GQ.blockN ?_)
 refine GQ.pick [0,1,1] rfl ?_
 exact Zb ⟨s25,(P++(B++[c1,c2,c3,c4])),[],t4,_,_,_,q29,b30,o31,cs32,cap33,rfl,hR26,by rw[htx,e4];simp,⟨Oz,Om,Om,Oz⟩,⟨by simp[hys.1],by rw[show(ob+4)%256=0 by omega];rfl⟩,hg34,hc35,(by have hh:=ht36;rw[List.drop_zero,show 256=ob+4 by omega,hset] at hh;rw[show 256=ob+4 by omega];exact hh),rfl,rfl⟩ (hs:=rfl)
 refine G.skip (GQ.blockN ?_)
 refine GQ.pick [0,1,1] rfl ?_
 exact Zb ⟨s25,P,(B++[c1,c2,c3,c4]),t4,_,_,dn,q,bq,oq,cs,capd,rfl,hR26,by rw[htx,e4];simp,⟨Oz,Om,Om,hB.2.2.2⟩,⟨by simp[hys.1],by rw[show(ob+4)%256=ob+4 by omega];exact hset⟩,hg,hc1,hp,rfl,rfl⟩ (hs:=rfl)
 refine G.exit (GQ.thenE (GQ.thenE (GQ.blockE (GQ.thenN (G.seq (G.seq ?_))))))
 have htl:text.length=P.length+B.length+t.length:=by rw[htx];simp;omega
 have hys1:=hys.1
 refine YG ?_
 refine Yy (Zlen un_22) ?_
 refine Yy (ZcvNh ob un_5 un_3) ?_
 refine Yy (ZaddNh dn ob) ?_
 refine Yy (Zgt (dn+ob) text.length) ?_
 refine Zn ?_
 refine Zc (fun h37=>?_) (fun h37=>?_)
 exfalso;omega
 refine Y8 ?_
 refine Yy (y_slAH (hi:=ob) rfl rfl rfl ae_89 Om) ?_
 refine GL.eff (e_appN (k:=.u8) (n:=dn) (m:=ob) (ys:=(ys.drop 0).take ob) 2 rfl rfl rfl rfl el_22 rfl rfl hg hp (Src.ofL 1 0 rfl (by first|rfl|(congr 2;omega)) (nats_src _ _ _)) Oq rfl rfl) rfl ?_
 rintro _ _ ⟨q38,b39,o40,cs41,cap42,hg43,hc44,ht45,rfl,rfl⟩
 refine Ya ?_
 refine Y2 ?_
 refine Yy (Zf fo_150_1) ?_
 refine Yr (Zl 0 1 ag_39) ?_
 refine Yy (ZcvNa s.off un_39 un_5) ?_
 refine Yy (ZmulNa s.off 8) ?_
 refine Yy (Zf fo_150_3) ?_
 refine Yr (Zl 0 3 ag_5) ?_
 refine Yy (ZsubNa 64 s.rd) ?_
 refine Yy (Zq (tN cd t) (ZaddNa (s.off*8) (64-s.rd))) ?_
 refine Yy (ZcvNe (tN cd t) un_5 un_158) ?_
 refine Z4 (G.block ?_)
 refine G.pick [0,1] rfl ?_
 refine Zo (fun n ρ l=>∃s:BR,∃P t:List Nat,∃dn:Nat,∃q:Option Addr,∃bq oq:Nat,∃cs:List Value,∃capd:Nat,n=t.length∧(RdT xs k len cd S s t)∧(text=P++t)∧(dn=P.length∧s.off<4)∧(GS q bq oq cs 1 capd)∧(dn≤capd)∧(cs.take dn=nats .u8 P)∧ρ=[(0,Vp be eo),(10,Vh text.length),(8,Vp b1 0),(11,Vs bt to 256 tcap),(12,Vp b2 0),(1,.slice q dn capd),(16,Ve (tN cd t))]∧l=[⟨b1,0,[Vs bi (so+k) len cap,Vd s.off,Vd s.val,Va s.rd],none⟩,⟨bq,oq,cs,none⟩]) ⟨s,(P++B),t,_,q38,b39,o40,cs41,cap42,rfl,hR,htx,⟨Oz,Om⟩,hg43,hc44,(by have hh:=ht45;rw[List.drop_zero,hys.2] at hh;exact hh),rfl,rfl⟩ ?_ (hs:=rfl)
 rintro _ _ _ ⟨s,P,t,dn,q,bq,oq,cs,capd,rfl,hR,htx,hB,hg,hc1,hp,rfl,rfl⟩
 have hk0:=hR.pos.ok
 have hv0:=hk0.val
 have hl0:=hR.left
 have hq0:=tN_le' hT hL8 hR.all
 refine Y6 ?_
 refine Yy (Zgt (tN cd t) 0) ?_
 refine Zn ?_
 refine Zc (fun h46=>?_) (fun h46=>?_)
 refine Z7 (G.block (Y6 ?_))
 refine Yy (Zf fo_150_3) ?_
 refine Yr (Zl 0 3 ag_5) ?_
 refine Yy (Zge s.rd 56) ?_
 refine Zn ?_
 refine G.meetK (fun ρ l=>∃s5:BR,(RdT xs k len cd S s5 t)∧((s5.rd<56∨s5.off=0)∧s5.off<4)∧ρ=[(0,Vp be eo),(10,Vh text.length),(8,Vp b1 0),(11,Vs bt to 256 tcap),(12,Vp b2 0),(16,Ve (tN cd t)),(1,.slice q dn capd)]∧l=[⟨b1,0,[Vs bi (so+k) len cap,Vd s5.off,Vd s5.val,Va s5.rd],none⟩,⟨bq,oq,cs,none⟩]) ?_ ?_
 refine Zc (fun h47=>?_) (fun h47=>?_)
 refine G.block ?_
 refine Zo (fun n ρ l=>∃s5:BR,n=s5.off∧(RdT xs k len cd S s5 t)∧(s5.off<4∧8*s5.off≤s5.rd)∧ρ=[(0,Vp be eo),(10,Vh text.length),(8,Vp b1 0),(11,Vs bt to 256 tcap),(12,Vp b2 0),(16,Ve (tN cd t)),(1,.slice q dn capd)]∧l=[⟨b1,0,[Vs bi (so+k) len cap,Vd s5.off,Vd s5.val,Va s5.rd],none⟩,⟨bq,oq,cs,none⟩]) ⟨s,rfl,hR,⟨Om,Om⟩,rfl,rfl⟩ ?_
 rintro _ _ _ ⟨s5,rfl,hR5,h5,rfl,rfl⟩
 have hk5:=hR5.pos.ok
 have hl5:=hR5.left
 have hv5:=hk5.val
 have hb5:=hb.at_ (k+(s5.off-1))
 refine Y6 ?_
 refine Yy (Zf fo_150_1) ?_
 refine Yr (Zl 0 1 ag_39) ?_
 refine Yy (Zgt s5.off 0) ?_
 refine Zn ?_
 refine Zc (fun h48=>?_) (fun h48=>?_)
 refine Z7 (G.block (G.seq ?_))
 refine Zg 65536 [y_0,r_1,y_2,r_3,y_4,r_5,y_6,y_7,r_8,y_9,y_10,r_11,y_12,y_13,y_14,y_15,e_16] ?_
 refine Ypy (Zf fo_150_2) ?_
 refine Ypr (Zl 0 2 ag_96) ?_
 refine Ypy (Zf fo_150_0) ?_
 refine Ypr (Zl 0 0 ag_22) ?_
 refine Ypy (Zf fo_150_1) ?_
 refine Ypr (Zl 0 1 ag_39) ?_
 refine Ypy (ZsubNd s5.off 1) ?_
 refine Ypy (Zx (so+(k+(s5.off-1))) (s5.off-1) se_22) ?_
 refine Ypr (r_ldr 2 (k+(s5.off-1)) rfl rfl rfl ag_5 (by first|omega|(dsimp only;omega)|rfl) (nats_get Om)) ?_
 refine Ypy (ZcvNd (xs.getD (k+(s5.off-1)) 0) un_5 un_96) ?_
 refine Ypy (Zf fo_150_3) ?_
 refine Ypr (Zl 0 3 ag_5) ?_
 refine Ypy (ZsubNa s5.rd 8) ?_
 refine Ypy (ZshlWd (xs.getD (k+(s5.off-1)) 0) (s5.rd-8)) ?_
 refine Ypy (ZorNd s5.val ((xs.getD (k+(s5.off-1)) 0)*2^(s5.rd-8)%18446744073709551616)) ?_
 refine Ypy (Zf fo_150_2) ?_
 refine Yps (Zst 0 2 sz_96) ?_
 refine GP.nil (GQ.thenN (Y5 ?_))
 refine Yy (Zf fo_150_3) ?_
 refine Yr (Zl 0 3 ag_5) ?_
 refine Yy (ZsubNa s5.rd 8) ?_
 refine Yy (Zf fo_150_3) ?_
 refine Ys (Zst 0 3 sz_5) ?_
 refine Y1 ?_
 refine Yy (Zf fo_150_1) ?_
 refine Yr (Zl 0 1 ag_39) ?_
 refine Yy (ZsubNd s5.off 1) ?_
 refine Yy (Zf fo_150_1) ?_
 refine Ys (Zst 0 1 sz_39) ?_
 refine GL.nil (GQ.blockN ?_)
 exact Zb ⟨(s5.load1 xs k),rfl,hR5.load1 hb Om Om,⟨by simp[BR.load1];omega,by simp[BR.load1];omega⟩,rfl,rfl⟩ (by simp[BR.load1];omega)
 refine G.exit (GQ.thenE (GQ.thenE (GQ.blockE ?_)))
 exact Zm ⟨s5,hR5,⟨Om,Om⟩,rfl,rfl⟩
 refine G.skip ?_
 exact Zm ⟨s,hR,⟨Om,Om⟩,rfl,rfl⟩
 rintro _ _ ⟨s5,hR5,h5,rfl,rfl⟩
 have hk5:=hR5.pos.ok
 have hl5:=hR5.left
 have hv5:=hk5.val
 refine GQ.thenN (G.seq (G.seq ?_))
 obtain⟨c1,t1,e1⟩:=one_of (t:=t) Om
 have hRc:RdT xs k len cd S s5 (c1::t1):=e1▸hR5
 have ht1:t.length=t1.length+1:=by rw[e1];rfl
 have htn:tN cd t=tN cd (c1::t1):=by rw[e1]
 have htl:text.length=P.length+t.length:=by rw[htx];simp
 refine YG ?_
 refine Yy (Zlen un_22) ?_
 refine Yy (Zge dn text.length) ?_
 refine Zn ?_
 refine Zc (fun h49=>?_) (fun h49=>?_)
 exfalso;omega
 refine Y8 ?_
 obtain⟨n50,p51,hpp51,hep51,hvp51,hcp51,hap51,hbp51,hrp51,htp51,hN52⟩:=hRc.get hT hb Om
 refine Zcc [0] [] (k_peekB (Vs bi (so+k) len cap) _ b1 0 none s5 Oa L hL hpp51) rfl ?_
 refine Yy (Zx (to+p51) p51 se_81) ?_
 refine Yr (r_ldar 1 p51 rfl rfl rfl ag_115 sz_115 Oe (nats_take1E Om hep51) rfl) ?_
 refine Ze (Zal zc_115) fun b53=>?_
 refine Ys (Zsw 0 sz_115) ?_
 refine Y2 ?_
 refine Yy (Zf fo_115_0) ?_
 refine Yr (Zl 0 0 ag_78) ?_
 refine Yy (Zq n50 (ZcvWa (n50+256*c1) un_78 un_5)) ?_
 refine Y2 ?_
 refine Zcp [1] [] (Con.some' (fun s'=>RdT xs k len cd S s' t1∧s'.rd=s5.rd+n50∧s'.off=s5.off) (c_advance_Bytes (Vs bi (so+k) len cap) _ b1 0 none s5 Oa n50 Om) ⟨hN52,adv_rd Om,rfl⟩) rfl ?_
 rintro _ _ ⟨rfl,s54,⟨hR55,hds54,hos54⟩,rfl⟩
 have hks54:=hR55.pos.ok
 have hls54:=hR55.left
 have hvs54:=hks54.val
 refine Y2 ?_
 refine Yy (ZcvNe n50 un_5 un_158) ?_
 refine Yy (Zq (tN cd t1) (ZsubNe (tN cd t) n50)) ?_
 refine Y1 ?_
 refine Yy (Zf fo_115_0) ?_
 refine Yr (Zl 1 0 ag_78) ?_
 refine Yy (Zq c1 (ZshrNb (n50+256*c1) 8)) ?_
 refine Yy (ZcvNa c1 un_78 un_5) ?_
 refine Ze (e_bs (ps:=[(0,.tmp 240)]) (pv:=[(0,Va c1)]) (vs:=[Va c1]) 1 rfl ⟨rfl,rfl⟩ el_22 Od Ov rfl rfl) fun b56=>?_
 refine GL.eff (e_appN (k:=.u8) (n:=dn) (m:=1) (ys:=[c1]) 3 rfl rfl rfl rfl el_22 rfl rfl hg hp (Src.ofL 0 0 rfl rfl rfl) Oq rfl rfl) rfl ?_
 rintro _ _ ⟨q57,b58,o59,cs60,cap61,hg62,hc63,ht64,rfl,rfl⟩
 refine Ya ?_
 refine GL.nil (GQ.blockN ?_)
 refine GQ.pick [1,2] rfl ?_
 exact Zb ⟨s54,(P++[c1]),t1,_,q57,b58,o59,cs60,cap61,rfl,hR55,by rw[htx,e1];simp,⟨Oz,Om⟩,hg62,hc63,ht64,rfl,rfl⟩ (hs:=rfl)
 refine G.exit (GQ.thenE (GQ.thenE (GQ.blockE (GQ.thenN (Y5 ?_)))))
 refine Yy (Zf fo_119_2) ?_
 refine Yr (Zk 0 2 ag_117) ?_
 refine Yy (y_mi rfl rfl un_124 rfl) ?_
 refine Zcc [] [] (c_poolPut _ _) rfl ?_
 refine Z4 ?_
 have h0:s.off=0:=Om
 have h64:s.rd=64:=Om
 have ht0:t=[]:=List.eq_nil_of_length_eq_zero Om
 have hPt:P=text:=by rw[htx,ht0];simp
 have hdl2:text.length=P.length:=by rw[←hPt]
 refine YG ?_
 refine Zcc [0] [] (c_close_Bytes (Vs bi (so+k) len cap) _ b1 0 none s Oa Oa Oa Om) rfl ?_
 refine Ya ?_
 refine Zn (G.ret ?_)
 repeat first|refine ZR ?_|refine ZB ?_
 exact ret2 [1] rfl rfl rfl rfl (⟨q,bq,oq,cs,capd,by rw[show text.length=dn by omega],hg,Om,by rw[show text.length=dn by omega, ←hPt];exact hp,rfl⟩)
set_option maxHeartbeats 8000000 in
theorem c_D1X_lo (bi so:Nat) (shi:Shp) (xs:List Nat) (k len cap:Nat) (hc:len≤cap) (hk:k+len≤xs.length) (hz:xs.length≤1152921504606846976) (hb:Bytes xs)
    (bt to tcap:Nat) (sht:Shp) (dt:List Nat) (hdl:dt.length=2048) (htc:2048≤tcap) (L:Nat) (cd:Nat→Nat × Nat) (S:Nat→Prop) (hT:Tab dt L cd S)
    (be eo:Nat) (she:Shp) (dp:Value) (bd:Nat) (zs text:List Nat) (hzs:zs.length=text.length) (htl1:1≤text.length) (h48:text.length≤1073741824)
    (hlen:1≤len) (hlast:0<xs.getD (k+(len-1)) 0) (hL8:L≤8) (hR0:RdT xs k len cd S (BR.init 4 xs k len) text):Con Tryz.prog 47 [Vp be eo,Vs bd 0 0 text.length,Vs bi (so+k) len cap] [⟨bd,0,(nats .u8 zs),none⟩] [⟨be,eo,[Vs bt to 2048 tcap,Va L,dp],she⟩,⟨bt,to,(nats .u16 dt),sht⟩,⟨bi,so,(nats .u8 xs),shi⟩] (fun v l'=>∃q b o cs cap,v=.tuple #[.slice q text.length cap,.nilIface]∧GS q b o cs 1 cap∧text.length≤cap∧cs.take text.length=nats .u8 text∧l'=[⟨b,o,cs,none⟩]):=by
 refine Zi Tryz.func47 rfl fun w0=>?_
 refine G.seq ?_
 have hL1:=hT.L1
 have hLL:=pow_le hL8
 have hOK0:=hR0.pos.ok
 refine YG ?_
 refine Y3 ?_
 refine Yy (Zf fo_119_1) ?_
 refine Yr (Zk 0 1 ag_5) ?_
 refine Yy (Zeq L 8) ?_
 refine Zn ?_
 refine Zc (fun h1=>?_) (fun h1=>?_)
 refine Y5 ?_
 refine Zcp [0] [0,1,2] (c_D1X_8 _ _ _ _ _ _ _ hc hk hz hb _ _ _ _ _ hdl htc _ _ _ hT _ _ _ _ _ _ _ hzs htl1 h48 hlen hlast Om hR0 Om) rfl ?_
 rintro _ _ ⟨q2,b3,o4,cs5,cap6,rfl,hg7,hc8,hp9,rfl⟩
 refine Ya ?_
 refine Zn (G.ret ?_)
 repeat first|refine ZR ?_|refine ZB ?_
 exact ret2 [0] rfl rfl rfl rfl (⟨q2,b3,o4,cs5,cap6,rfl,hg7,hc8,hp9,rfl⟩)
 refine Y8 ?_
 refine Ze (Zal zc_150) fun b10=>?_
 refine Y2 ?_
 refine Zcc [0] [3] (c_init_Bytes bi so shi xs k len cap Om Om Om Oa Om Oa b10 0 none _ _ _ _) rfl ?_
 refine Ya ?_
 refine Y3 ?_
 refine Yy (y_neNilNil rfl rfl un_52) ?_
 refine Zn (G.condF rfl (Y8 ?_))
 refine Yy (y_cap rfl rfl rfl rfl un_22) ?_
 refine Y2 ?_
 refine Yy (y_slH (hi:=0) rfl rfl rfl se_22 Om) ?_
 refine Y2 ?_
 refine Yy (Zf fo_119_0) ?_
 refine Yy (Zf fo_83_0) ?_
 refine Yr (Zk 0 0 ag_81) ?_
 refine Yy (y_slH (hi:=256) rfl rfl rfl se_81 Om) ?_
 refine Y2 ?_
 refine Zcp [] [2] (c_buffer be eo she _ _ _) rfl ?_
 rintro _ _ ⟨b11,rfl,rfl⟩
 refine Ya ?_
 refine Y2 ?_
 refine Yy (Zxa 0 0 ae_156) ?_
 refine Y2 ?_
 refine Y3 ?_
 refine Yy (Zf fo_119_1) ?_
 refine Yr (Zk 0 1 ag_5) ?_
 refine Zn ?_
 refine G.meetK (fun ρ l=>∃s:BR,∃P B t ys:List Nat,∃ob dn:Nat,∃q:Option Addr,∃bq oq:Nat,∃cs:List Value,∃capd:Nat,(RdT xs k len cd S s t)∧(text=P++B++t)∧(ob=B.length∧ob<256∧ob%4=0∧dn=P.length)∧(ys.length=1024∧ys.take ob=B)∧(GS q bq oq cs 1 capd)∧(dn≤capd)∧(cs.take dn=nats .u8 P)∧(s.off<4)∧ρ=[(0,Vp be eo),(10,Vh text.length),(8,Vp b10 0),(12,Vp b11 0),(13,Vp b11 0),(11,Vs bt to 256 tcap),(14,Va ob),(1,.slice q dn capd)]∧l=[⟨b10,0,[Vs bi (so+k) len cap,Vd s.off,Vd s.val,Va s.rd],none⟩,⟨b11,0,(nats .u8 ys),(some (156,(nats .u8 (List.replicate 1024 0)).length))⟩,⟨bq,oq,cs,none⟩]) ?_ ?_
 refine G.block (Y5 ?_)
 refine Yy (Zeq L 8) ?_
 refine Zn ?_
 refine Zc (fun h12=>?_) (fun h12=>?_)
 exfalso;omega
 refine Y5 ?_
 refine Yy (Zeq L 7) ?_
 refine Zn ?_
 refine Zc (fun h13=>?_) (fun h13=>?_)
 have hL:L=7:=Om
 refine G.block ?_
 refine G.pick [1,0,0] rfl ?_
 refine Zo (fun n ρ l=>∃s:BR,∃P B t ys:List Nat,∃ob dn:Nat,∃q:Option Addr,∃bq oq:Nat,∃cs:List Value,∃capd:Nat,n=t.length∧(RdT xs k len cd S s t)∧(text=P++B++t)∧(ob=B.length∧ob<256∧ob%4=0∧dn=P.length)∧(ys.length=1024∧ys.take ob=B)∧(GS q bq oq cs 1 capd)∧(dn≤capd)∧(cs.take dn=nats .u8 P)∧ρ=[(0,Vp be eo),(10,Vh text.length),(8,Vp b10 0),(12,Vp b11 0),(13,Vp b11 0),(11,Vs bt to 256 tcap),(14,Va ob),(1,.slice q dn capd)]∧l=[⟨b10,0,[Vs bi (so+k) len cap,Vd s.off,Vd s.val,Va s.rd],none⟩,⟨b11,0,(nats .u8 ys),(some (156,(nats .u8 (List.replicate 1024 0)).length))⟩,⟨bq,oq,cs,none⟩]) ⟨(BR.init 4 xs k len),[],[],text,(List.replicate 1024 0),0,0,(some ⟨bd,0,none⟩),bd,0,(nats .u8 zs),text.length,rfl,hR0,rfl,⟨rfl,Od,rfl,rfl⟩,⟨Oi,rfl⟩,⟨by simp[hzs],.inl rfl⟩,Nat.zero_le _,rfl,rfl,rfl⟩ ?_ (hs:=rfl)
 rintro _ _ _ ⟨s,P,B,t,ys,ob,dn,q,bq,oq,cs,capd,rfl,hR,htx,hB,hys,hg,hc1,hp,rfl,rfl⟩
 have hk0:=hR.pos.ok
 have hv0:=hk0.val
 have hl0:=hR.left
 have hq0:=tN_le' hT hL8 hR.all
 refine Y6 ?_
 refine Yy (Zf fo_150_1) ?_
 refine Yr (Zl 0 1 ag_39) ?_
 refine Yy (Zge s.off 4) ?_
 refine Zn ?_
 refine Zc (fun h14=>?_) (fun h14=>?_)
 refine Z7 (G.block (G.seq ?_))
 obtain⟨c1,c2,c3,c4,t4,e4⟩:=four_of (t:=t) Om
 have hRc:RdT xs k len cd S s (c1::c2::c3::c4::t4):=e4▸hR
 have ht4:t.length=t4.length+4:=by rw[e4];rfl
 have htl:text.length=P.length+B.length+t.length:=by rw[htx];simp;omega
 have hys1:=hys.1
 have hset:=set4 (c1:=c1) (c2:=c2) (c3:=c3) (c4:=c4) hys.2 Om
 refine YG ?_
 refine Zcp [0] [4] (Con.some' (fun s'=>RdT xs k len cd S s' (c1::c2::c3::c4::t4)∧s'.rd≤32∧s.off≤s'.off+4∧s'.off≤s.off) (c_fillFast_Bytes bi so shi xs k len cap Om Om Om b10 0 none s Oa Oa Om Om) (RdT.fillFast hRc Oa Om)) rfl ?_
 rintro _ _ ⟨rfl,s15,⟨hR16,hfs15,hos15,hqs15⟩,rfl⟩
 have hks15:=hR16.pos.ok
 have hls15:=hR16.left
 have hvs15:=hks15.val
 refine Y2 ?_
 refine Yy (Zf fo_150_2) ?_
 refine Yr (Zl 0 2 ag_96) ?_
 obtain⟨n17,p18,hpp18,hep18,hvp18,hcp18,hap18,hbp18,hrp18,htp18,hN19⟩:=hR16.get hT hb Om
 refine Yy (Zq p18 (ZshrNd s15.val 57) (by rw[←hpp18,hL])) ?_
 refine Yy (ZcvNa p18 un_96 un_5) ?_
 refine Yy (Zx (to+p18) p18 se_81) ?_
 refine Yr (r_ldar 1 p18 rfl rfl rfl ag_115 sz_115 Oe (nats_take1E Om hep18) rfl) ?_
 refine Ze (Zal zc_115) fun b20=>?_
 refine Ys (Zsw 0 sz_115) ?_
 refine Y2 ?_
 refine Yy (Zf fo_115_0) ?_
 refine Yr (Zl 0 0 ag_78) ?_
 refine Yy (Zq n17 (ZcvWa (n17+256*c1) un_78 un_5)) ?_
 refine Zcp [1] [] (Con.some' (fun s'=>RdT xs k len cd S s' (c2::c3::c4::t4)∧s'.rd=s15.rd+n17∧s'.off=s15.off) (c_advance_Bytes (Vs bi (so+k) len cap) _ b10 0 none s15 Oa n17 Om) ⟨hN19,adv_rd Om,rfl⟩) rfl ?_
 rintro _ _ ⟨rfl,s21,⟨hR22,hds21,hos21⟩,rfl⟩
 have hks21:=hR22.pos.ok
 have hls21:=hR22.left
 have hvs21:=hks21.val
 refine Z4 ?_
 refine Zg 512 [y_0,y_1,y_2,y_3,r_4,y_5,y_6,y_7,y_8,e_9] ?_
 refine Ypa ?_
 refine Ypy (ZaddNa ob 0) ?_
 refine Ypy (Zf fo_115_0) ?_
 refine Ypr (Zl 1 0 ag_78) ?_
 refine Ypy (Zq c1 (ZshrNb (n17+256*c1) 8)) ?_
 refine Ypy (ZcvNa c1 un_78 un_5) ?_
 refine Ypy (Zxb (ob+0) (ob+0) ae_89) ?_
 refine Yps (Zsu 2 (ob+0) sz_5) ?_
 refine GP.nil (GQ.thenN (Y5 ?_))
 refine Yy (Zf fo_150_2) ?_
 refine Yr (Zl 0 2 ag_96) ?_
 obtain⟨n23,p24,hpp24,hep24,hvp24,hcp24,hap24,hbp24,hrp24,htp24,hN25⟩:=hR22.get hT hb Om
 refine Yy (Zq p24 (ZshrNd s21.val 57) (by rw[←hpp24,hL])) ?_
 refine Yy (ZcvNa p24 un_96 un_5) ?_
 refine Yy (Zx (to+p24) p24 se_81) ?_
 refine Yr (r_ldar 1 p24 rfl rfl rfl ag_115 sz_115 Oe (nats_take1E Om hep24) rfl) ?_
 refine Ys (Zsw 1 sz_115) ?_
 refine Y2 ?_
 refine Yy (Zf fo_115_0) ?_
 refine Yr (Zl 1 0 ag_78) ?_
 refine Yy (Zq n23 (ZcvWa (n23+256*c2) un_78 un_5)) ?_
 refine Zcp [0] [] (Con.some' (fun s'=>RdT xs k len cd S s' (c3::c4::t4)∧s'.rd=s21.rd+n23∧s'.off=s21.off) (c_advance_Bytes (Vs bi (so+k) len cap) _ b10 0 none s21 Oa n23 Om) ⟨hN25,adv_rd Om,rfl⟩) rfl ?_
 rintro _ _ ⟨rfl,s26,⟨hR27,hds26,hos26⟩,rfl⟩
 have hks26:=hR27.pos.ok
 have hls26:=hR27.left
 have hvs26:=hks26.val
 refine Z4 ?_
 refine Zg 512 [y_0,y_1,y_2,y_3,r_4,y_5,y_6,y_7,y_8,e_9] ?_
 refine Ypa ?_
 refine Ypy (ZaddNa ob 1) ?_
 refine Ypy (Zf fo_115_0) ?_
 refine Ypr (Zl 1 0 ag_78) ?_
 refine Ypy (Zq c2 (ZshrNb (n23+256*c2) 8)) ?_
 refine Ypy (ZcvNa c2 un_78 un_5) ?_
 refine Ypy (Zxb (ob+1) (ob+1) ae_89) ?_
 refine Yps (Zsu 2 (ob+1) sz_5) ?_
 refine GP.nil (GQ.thenN (Y5 ?_))
 refine Yy (Zf fo_150_2) ?_
 refine Yr (Zl 0 2 ag_96) ?_
 obtain⟨n28,p29,hpp29,hep29,hvp29,hcp29,hap29,hbp29,hrp29,htp29,hN30⟩:=hR27.get hT hb Om
 refine Yy (Zq p29 (ZshrNd s26.val 57) (by rw[←hpp29,hL])) ?_
 refine Yy (ZcvNa p29 un_96 un_5) ?_
 refine Yy (Zx (to+p29) p29 se_81) ?_
 refine Yr (r_ldar 1 p29 rfl rfl rfl ag_115 sz_115 Oe (nats_take1E Om hep29) rfl) ?_
 refine Ys (Zsw 1 sz_115) ?_
 refine Y2 ?_
 refine Yy (Zf fo_115_0) ?_
 refine Yr (Zl 1 0 ag_78) ?_
 refine Yy (Zq n28 (ZcvWa (n28+256*c3) un_78 un_5)) ?_
 refine Zcp [0] [] (Con.some' (fun s'=>RdT xs k len cd S s' (c4::t4)∧s'.rd=s26.rd+n28∧s'.off=s26.off) (c_advance_Bytes (Vs bi (so+k) len cap) _ b10 0 none s26 Oa n28 Om) ⟨hN30,adv_rd Om,rfl⟩) rfl ?_
 rintro _ _ ⟨rfl,s31,⟨hR32,hds31,hos31⟩,rfl⟩
 have hks31:=hR32.pos.ok
 have hls31:=hR32.left
 have hvs31:=hks31.val
 refine Z4 ?_
 refine Zg 512 [y_0,y_1,y_2,y_3,r_4,y_5,y_6,y_7,y_8,e_9] ?_
 refine Ypa ?_
 refine Ypy (ZaddNa ob 2) ?_
 refine Ypy (Zf fo_115_0) ?_
 refine Ypr (Zl 1 0 ag_78) ?_
 refine Ypy (Zq c3 (ZshrNb (n28+256*c3) 8)) ?_
 refine Ypy (ZcvNa c3 un_78 un_5) ?_
 refine Ypy (Zxb (ob+2) (ob+2) ae_89) ?_
 refine Yps (Zsu 2 (ob+2) sz_5) ?_
 refine GP.nil (GQ.thenN (Y5 ?_))
 refine Yy (Zf fo_150_2) ?_
 refine Yr (Zl 0 2 ag_96) ?_
 obtain⟨n33,p34,hpp34,hep34,hvp34,hcp34,hap34,hbp34,hrp34,htp34,hN35⟩:=hR32.get hT hb Om
 refine Yy (Zq p34 (ZshrNd s31.val 57) (by rw[←hpp34,hL])) ?_
 refine Yy (ZcvNa p34 un_96 un_5) ?_
 refine Yy (Zx (to+p34) p34 se_81) ?_
 refine Yr (r_ldar 1 p34 rfl rfl rfl ag_115 sz_115 Oe (nats_take1E Om hep34) rfl) ?_
 refine Ys (Zsw 1 sz_115) ?_
 refine Y2 ?_
 refine Yy (Zf fo_115_0) ?_
 refine Yr (Zl 1 0 ag_78) ?_
 refine Yy (Zq n33 (ZcvWa (n33+256*c4) un_78 un_5)) ?_
 refine Zcp [0] [] (Con.some' (fun s'=>RdT xs k len cd S s' t4∧s'.rd=s31.rd+n33∧s'.off=s31.off) (c_advance_Bytes (Vs bi (so+k) len cap) _ b10 0 none s31 Oa n33 Om) ⟨hN35,adv_rd Om,rfl⟩) rfl ?_
 rintro _ _ ⟨rfl,s36,⟨hR37,hds36,hos36⟩,rfl⟩
 have hks36:=hR37.pos.ok
 have hls36:=hR37.left
 have hvs36:=hks36.val
 refine Z4 ?_
 refine Zg 512 [y_0,y_1,y_2,y_3,r_4,y_5,y_6,y_7,y_8,e_9] ?_
 refine Ypa ?_
 refine Ypy (ZaddNa ob 3) ?_
 refine Ypy (Zf fo_115_0) ?_
 refine Ypr (Zl 1 0 ag_78) ?_
 refine Ypy (Zq c4 (ZshrNb (n33+256*c4) 8)) ?_
 refine Ypy (ZcvNa c4 un_78 un_5) ?_
 refine Ypy (Zxb (ob+3) (ob+3) ae_89) ?_
 refine Yps (Zsu 2 (ob+3) sz_5) ?_
 refine GP.nil (GQ.thenN (Y5 ?_))
 refine Yy (ZaddWa ob 4) ?_
 refine Y2 ?_
 refine Yy (Zeq ((ob+4)%256) 0) ?_
 refine Zn ?_
 refine Zc (fun h38=>?_) (fun h38=>?_)
 refine Y6 ?_
 refine Yy (Zlen un_22) ?_
 refine Yy (ZaddNh dn 256) ?_
 refine Yy (Zgt (dn+256) text.length) ?_
 refine Zn ?_
 refine Zc (fun h39=>?_) (fun h39=>?_)
 exfalso;omega
 refine Z7 (YG ?_)
 refine Yy (y_slA rfl rfl ae_89) ?_
 refine GL.eff (e_appN (k:=.u8) (n:=dn) (m:=256) (ys:=(((((ys.set (ob+0) c1).set (ob+1) c2).set (ob+2) c3).set (ob+3) c4).drop 0).take 256) 3 rfl rfl rfl rfl el_22 rfl rfl hg hp (Src.ofL 2 0 rfl (by first|rfl|(congr 2;omega)) (nats_src _ _ _)) Oq rfl rfl) rfl ?_
 rintro _ _ ⟨q40,b41,o42,cs43,cap44,hg45,hc46,ht47,rfl,rfl⟩
 refine Ya ?_
 refine GL.nil (GQ.blockN ?_)
 refine GQ.pick [0,1,1] rfl ?_
 exact Zb ⟨s36,(P++(B++[c1,c2,c3,c4])),[],t4,_,_,_,q40,b41,o42,cs43,cap44,rfl,hR37,by rw[htx,e4];simp,⟨Oz,Om,Om,Oz⟩,⟨by simp[hys.1],by rw[show(ob+4)%256=0 by omega];rfl⟩,hg45,hc46,(by have hh:=ht47;rw[List.drop_zero,show 256=ob+4 by omega,hset] at hh;rw[show 256=ob+4 by omega];exact hh),rfl,rfl⟩ (hs:=rfl)
 refine G.skip (GQ.blockN ?_)
 refine GQ.pick [0,1,1] rfl ?_
 exact Zb ⟨s36,P,(B++[c1,c2,c3,c4]),t4,_,_,dn,q,bq,oq,cs,capd,rfl,hR37,by rw[htx,e4];simp,⟨Oz,Om,Om,hB.2.2.2⟩,⟨by simp[hys.1],by rw[show(ob+4)%256=ob+4 by omega];exact hset⟩,hg,hc1,hp,rfl,rfl⟩ (hs:=rfl)
 refine G.exit (GQ.thenE (GQ.thenE (GQ.blockE (GQ.blockN ?_))))
 exact Zm ⟨s,P,B,t,ys,ob,dn,q,bq,oq,cs,capd,hR,htx,hB,hys,hg,hc1,hp,Om,rfl,rfl⟩
 refine Y5 ?_
 refine Yy (Zeq L 6) ?_
 refine Zn ?_
 refine Zc (fun h48=>?_) (fun h48=>?_)
 have hL:L=6:=Om
 refine G.block ?_
 refine G.pick [1,0,0] rfl ?_
 refine Zo (fun n ρ l=>∃s:BR,∃P B t ys:List Nat,∃ob dn:Nat,∃q:Option Addr,∃bq oq:Nat,∃cs:List Value,∃capd:Nat,n=t.length∧(RdT xs k len cd S s t)∧(text=P++B++t)∧(ob=B.length∧ob<256∧ob%4=0∧dn=P.length)∧(ys.length=1024∧ys.take ob=B)∧(GS q bq oq cs 1 capd)∧(dn≤capd)∧(cs.take dn=nats .u8 P)∧ρ=[(0,Vp be eo),(10,Vh text.length),(8,Vp b10 0),(12,Vp b11 0),(13,Vp b11 0),(11,Vs bt to 256 tcap),(14,Va ob),(1,.slice q dn capd)]∧l=[⟨b10,0,[Vs bi (so+k) len cap,Vd s.off,Vd s.val,Va s.rd],none⟩,⟨b11,0,(nats .u8 ys),(some (156,(nats .u8 (List.replicate 1024 0)).length))⟩,⟨bq,oq,cs,none⟩]) ⟨(BR.init 4 xs k len),[],[],text,(List.replicate 1024 0),0,0,(some ⟨bd,0,none⟩),bd,0,(nats .u8 zs),text.length,rfl,hR0,rfl,⟨rfl,Od,rfl,rfl⟩,⟨Oi,rfl⟩,⟨by simp[hzs],.inl rfl⟩,Nat.zero_le _,rfl,rfl,rfl⟩ ?_ (hs:=rfl)
 rintro _ _ _ ⟨s,P,B,t,ys,ob,dn,q,bq,oq,cs,capd,rfl,hR,htx,hB,hys,hg,hc1,hp,rfl,rfl⟩
 have hk0:=hR.pos.ok
 have hv0:=hk0.val
 have hl0:=hR.left
 have hq0:=tN_le' hT hL8 hR.all
 refine Y6 ?_
 refine Yy (Zf fo_150_1) ?_
 refine Yr (Zl 0 1 ag_39) ?_
 refine Yy (Zge s.off 4) ?_
 refine Zn ?_
 refine Zc (fun h49=>?_) (fun h49=>?_)
 refine Z7 (G.block (G.seq ?_))
 obtain⟨c1,c2,c3,c4,t4,e4⟩:=four_of (t:=t) Om
 have hRc:RdT xs k len cd S s (c1::c2::c3::c4::t4):=e4▸hR
 have ht4:t.length=t4.length+4:=by rw[e4];rfl
 have htl:text.length=P.length+B.length+t.length:=by rw[htx];simp;omega
 have hys1:=hys.1
 have hset:=set4 (c1:=c1) (c2:=c2) (c3:=c3) (c4:=c4) hys.2 Om
 refine YG ?_
 refine Zcp [0] [4] (Con.some' (fun s'=>RdT xs k len cd S s' (c1::c2::c3::c4::t4)∧s'.rd≤32∧s.off≤s'.off+4∧s'.off≤s.off) (c_fillFast_Bytes bi so shi xs k len cap Om Om Om b10 0 none s Oa Oa Om Om) (RdT.fillFast hRc Oa Om)) rfl ?_
 rintro _ _ ⟨rfl,s50,⟨hR51,hfs50,hos50,hqs50⟩,rfl⟩
 have hks50:=hR51.pos.ok
 have hls50:=hR51.left
 have hvs50:=hks50.val
 refine Y2 ?_
 refine Yy (Zf fo_150_2) ?_
 refine Yr (Zl 0 2 ag_96) ?_
 obtain⟨n52,p53,hpp53,hep53,hvp53,hcp53,hap53,hbp53,hrp53,htp53,hN54⟩:=hR51.get hT hb Om
 refine Yy (Zq p53 (ZshrNd s50.val 58) (by rw[←hpp53,hL])) ?_
 refine Yy (ZcvNa p53 un_96 un_5) ?_
 refine Yy (Zx (to+p53) p53 se_81) ?_
 refine Yr (r_ldar 1 p53 rfl rfl rfl ag_115 sz_115 Oe (nats_take1E Om hep53) rfl) ?_
 refine Ze (Zal zc_115) fun b55=>?_
 refine Ys (Zsw 0 sz_115) ?_
 refine Y2 ?_
 refine Yy (Zf fo_115_0) ?_
 refine Yr (Zl 0 0 ag_78) ?_
 refine Yy (Zq n52 (ZcvWa (n52+256*c1) un_78 un_5)) ?_
 refine Zcp [1] [] (Con.some' (fun s'=>RdT xs k len cd S s' (c2::c3::c4::t4)∧s'.rd=s50.rd+n52∧s'.off=s50.off) (c_advance_Bytes (Vs bi (so+k) len cap) _ b10 0 none s50 Oa n52 Om) ⟨hN54,adv_rd Om,rfl⟩) rfl ?_
 rintro _ _ ⟨rfl,s56,⟨hR57,hds56,hos56⟩,rfl⟩
 have hks56:=hR57.pos.ok
 have hls56:=hR57.left
 have hvs56:=hks56.val
 refine Z4 ?_
 refine Zg 512 [y_0,y_1,y_2,y_3,r_4,y_5,y_6,y_7,y_8,e_9] ?_
 refine Ypa ?_
 refine Ypy (ZaddNa ob 0) ?_
 refine Ypy (Zf fo_115_0) ?_
 refine Ypr (Zl 1 0 ag_78) ?_
 refine Ypy (Zq c1 (ZshrNb (n52+256*c1) 8)) ?_
 refine Ypy (ZcvNa c1 un_78 un_5) ?_
 refine Ypy (Zxb (ob+0) (ob+0) ae_89) ?_
 refine Yps (Zsu 2 (ob+0) sz_5) ?_
 refine GP.nil (GQ.thenN (Y5 ?_))
 refine Yy (Zf fo_150_2) ?_
 refine Yr (Zl 0 2 ag_96) ?_
 obtain⟨n58,p59,hpp59,hep59,hvp59,hcp59,hap59,hbp59,hrp59,htp59,hN60⟩:=hR57.get hT hb Om
 refine Yy (Zq p59 (ZshrNd s56.val 58) (by rw[←hpp59,hL])) ?_
 refine Yy (ZcvNa p59 un_96 un_5) ?_
 refine Yy (Zx (to+p59) p59 se_81) ?_
 refine Yr (r_ldar 1 p59 rfl rfl rfl ag_115 sz_115 Oe (nats_take1E Om hep59) rfl) ?_
 refine Ys (Zsw 1 sz_115) ?_
 refine Y2 ?_
 refine Yy (Zf fo_115_0) ?_
 refine Yr (Zl 1 0 ag_78) ?_
 refine Yy (Zq n58 (ZcvWa (n58+256*c2) un_78 un_5)) ?_
 refine Zcp [0] [] (Con.some' (fun s'=>RdT xs k len cd S s' (c3::c4::t4)∧s'.rd=s56.rd+n58∧s'.off=s56.off) (c_advance_Bytes (Vs bi (so+k) len cap) _ b10 0 none s56 Oa n58 Om) ⟨hN60,adv_rd Om,rfl⟩) rfl ?_
 rintro _ _ ⟨rfl,s61,⟨hR62,hds61,hos61⟩,rfl⟩
 have hks61:=hR62.pos.ok
 have hls61:=hR62.left
 have hvs61:=hks61.val
 refine Z4 ?_
 refine Zg 512 [y_0,y_1,y_2,y_3,r_4,y_5,y_6,y_7,y_8,e_9] ?_
 refine Ypa ?_
 refine Ypy (ZaddNa ob 1) ?_
 refine Ypy (Zf fo_115_0) ?_
 refine Ypr (Zl 1 0 ag_78) ?_
 refine Ypy (Zq c2 (ZshrNb (n58+256*c2) 8)) ?_
 refine Ypy (ZcvNa c2 un_78 un_5) ?_
 refine Ypy (Zxb (ob+1) (ob+1) ae_89) ?_
 refine Yps (Zsu 2 (ob+1) sz_5) ?_
 refine GP.nil (GQ.thenN (Y5 ?_))
 refine Yy (Zf fo_150_2) ?_
 refine Yr (Zl 0 2 ag_96) ?_
 obtain⟨n63,p64,hpp64,hep64,hvp64,hcp64,hap64,hbp64,hrp64,htp64,hN65⟩:=hR62.get hT hb Om
 refine Yy (Zq p64 (ZshrNd s61.val 58) (by rw[←hpp64,hL])) ?_
 refine Yy (ZcvNa p64 un_96 un_5) ?_
 refine Yy (Zx (to+p64) p64 se_81) ?_
 refine Yr (r_ldar 1 p64 rfl rfl rfl ag_115 sz_115 Oe (nats_take1E Om hep64) rfl) ?_
 refine Ys (Zsw 1 sz_115) ?_
 refine Y2 ?_
 refine Yy (Zf fo_115_0) ?_
 refine Yr (Zl 1 0 ag_78) ?_
 refine Yy (Zq n63 (ZcvWa (n63+256*c3) un_78 un_5)) ?_
 refine Zcp [0] [] (Con.some' (fun s'=>RdT xs k len cd S s' (c4::t4)∧s'.rd=s61.rd+n63∧s'.off=s61.off) (c_advance_Bytes (Vs bi (so+k) len cap) _ b10 0 none s61 Oa n63 Om) ⟨hN65,adv_rd Om,rfl⟩) rfl ?_
 rintro _ _ ⟨rfl,s66,⟨hR67,hds66,hos66⟩,rfl⟩
 have hks66:=hR67.pos.ok
 have hls66:=hR67.left
 have hvs66:=hks66.val
 refine Z4 ?_
 refine Zg 512 [y_0,y_1,y_2,y_3,r_4,y_5,y_6,y_7,y_8,e_9] ?_
 refine Ypa ?_
 refine Ypy (ZaddNa ob 2) ?_
 refine Ypy (Zf fo_115_0) ?_
 refine Ypr (Zl 1 0 ag_78) ?_
 refine Ypy (Zq c3 (ZshrNb (n63+256*c3) 8)) ?_
 refine Ypy (ZcvNa c3 un_78 un_5) ?_
 refine Ypy (Zxb (ob+2) (ob+2) ae_89) ?_
 refine Yps (Zsu 2 (ob+2) sz_5) ?_
 refine GP.nil (GQ.thenN (Y5 ?_))
 refine Yy (Zf fo_150_2) ?_
 refine Yr (Zl 0 2 ag_96) ?_
 obtain⟨n68,p69,hpp69,hep69,hvp69,hcp69,hap69,hbp69,hrp69,htp69,hN70⟩:=hR67.get hT hb Om
 refine Yy (Zq p69 (ZshrNd s66.val 58) (by rw[←hpp69,hL])) ?_
 refine Yy (ZcvNa p69 un_96 un_5) ?_
 refine Yy (Zx (to+p69) p69 se_81) ?_
 refine Yr (r_ldar 1 p69 rfl rfl rfl ag_115 sz_115 Oe (nats_take1E Om hep69) rfl) ?_
 refine Ys (Zsw 1 sz_115) ?_
 refine Y2 ?_
 refine Yy (Zf fo_115_0) ?_
 refine Yr (Zl 1 0 ag_78) ?_
 refine Yy (Zq n68 (ZcvWa (n68+256*c4) un_78 un_5)) ?_
 refine Zcp [0] [] (Con.some' (fun s'=>RdT xs k len cd S s' t4∧s'.rd=s66.rd+n68∧s'.off=s66.off) (c_advance_Bytes (Vs bi (so+k) len cap) _ b10 0 none s66 Oa n68 Om) ⟨hN70,adv_rd Om,rfl⟩) rfl ?_
 rintro _ _ ⟨rfl,s71,⟨hR72,hds71,hos71⟩,rfl⟩
 have hks71:=hR72.pos.ok
 have hls71:=hR72.left
 have hvs71:=hks71.val
 refine Z4 ?_
 refine Zg 512 [y_0,y_1,y_2,y_3,r_4,y_5,y_6,y_7,y_8,e_9] ?_
 refine Ypa ?_
 refine Ypy (ZaddNa ob 3) ?_
 refine Ypy (Zf fo_115_0) ?_
 refine Ypr (Zl 1 0 ag_78) ?_
 refine Ypy (Zq c4 (ZshrNb (n68+256*c4) 8)) ?_
 refine Ypy (ZcvNa c4 un_78 un_5) ?_
 refine Ypy (Zxb (ob+3) (ob+3) ae_89) ?_
 refine Yps (Zsu 2 (ob+3) sz_5) ?_
 refine GP.nil (GQ.thenN (Y5 ?_))
 refine Yy (ZaddWa ob 4) ?_
 refine Y2 ?_
 refine Yy (Zeq ((ob+4)%256) 0) ?_
 refine Zn ?_
 refine Zc (fun h73=>?_) (fun h73=>?_)
 refine Y6 ?_
 refine Yy (Zlen un_22) ?_
 refine Yy (ZaddNh dn 256) ?_
 refine Yy (Zgt (dn+256) text.length) ?_
 refine Zn ?_
 refine Zc (fun h74=>?_) (fun h74=>?_)
 exfalso;omega
 refine Z7 (YG ?_)
 refine Yy (y_slA rfl rfl ae_89) ?_
 refine GL.eff (e_appN (k:=.u8) (n:=dn) (m:=256) (ys:=(((((ys.set (ob+0) c1).set (ob+1) c2).set (ob+2) c3).set (ob+3) c4).drop 0).take 256) 3 rfl rfl rfl rfl el_22 rfl rfl hg hp (Src.ofL 2 0 rfl (by first|rfl|(congr 2;omega)) (nats_src _ _ _)) Oq rfl rfl) rfl ?_
 rintro _ _ ⟨q75,b76,o77,cs78,cap79,hg80,hc81,ht82,rfl,rfl⟩
 refine Ya ?_
 refine GL.nil (GQ.blockN ?_)
 refine GQ.pick [0,1,1] rfl ?_
 exact Zb ⟨s71,(P++(B++[c1,c2,c3,c4])),[],t4,_,_,_,q75,b76,o77,cs78,cap79,rfl,hR72,by rw[htx,e4];simp,⟨Oz,Om,Om,Oz⟩,⟨by simp[hys.1],by rw[show(ob+4)%256=0 by omega];rfl⟩,hg80,hc81,(by have hh:=ht82;rw[List.drop_zero,show 256=ob+4 by omega,hset] at hh;rw[show 256=ob+4 by omega];exact hh),rfl,rfl⟩ (hs:=rfl)
 refine G.skip (GQ.blockN ?_)
 refine GQ.pick [0,1,1] rfl ?_
 exact Zb ⟨s71,P,(B++[c1,c2,c3,c4]),t4,_,_,dn,q,bq,oq,cs,capd,rfl,hR72,by rw[htx,e4];simp,⟨Oz,Om,Om,hB.2.2.2⟩,⟨by simp[hys.1],by rw[show(ob+4)%256=ob+4 by omega];exact hset⟩,hg,hc1,hp,rfl,rfl⟩ (hs:=rfl)
 refine G.exit (GQ.thenE (GQ.thenE (GQ.blockE (GQ.blockN ?_))))
 exact Zm ⟨s,P,B,t,ys,ob,dn,q,bq,oq,cs,capd,hR,htx,hB,hys,hg,hc1,hp,Om,rfl,rfl⟩
 refine Y5 ?_
 refine Yy (Zeq L 5) ?_
 refine Zn ?_
 refine Zc (fun h83=>?_) (fun h83=>?_)
 have hL:L=5:=Om
 refine G.block ?_
 refine G.pick [1,0,0] rfl ?_
 refine Zo (fun n ρ l=>∃s:BR,∃P B t ys:List Nat,∃ob dn:Nat,∃q:Option Addr,∃bq oq:Nat,∃cs:List Value,∃capd:Nat,n=t.length∧(RdT xs k len cd S s t)∧(text=P++B++t)∧(ob=B.length∧ob<256∧ob%4=0∧dn=P.length)∧(ys.length=1024∧ys.take ob=B)∧(GS q bq oq cs 1 capd)∧(dn≤capd)∧(cs.take dn=nats .u8 P)∧ρ=[(0,Vp be eo),(10,Vh text.length),(8,Vp b10 0),(12,Vp b11 0),(13,Vp b11 0),(11,Vs bt to 256 tcap),(14,Va ob),(1,.slice q dn capd)]∧l=[⟨b10,0,[Vs bi (so+k) len cap,Vd s.off,Vd s.val,Va s.rd],none⟩,⟨b11,0,(nats .u8 ys),(some (156,(nats .u8 (List.replicate 1024 0)).length))⟩,⟨bq,oq,cs,none⟩]) ⟨(BR.init 4 xs k len),[],[],text,(List.replicate 1024 0),0,0,(some ⟨bd,0,none⟩),bd,0,(nats .u8 zs),text.length,rfl,hR0,rfl,⟨rfl,Od,rfl,rfl⟩,⟨Oi,rfl⟩,⟨by simp[hzs],.inl rfl⟩,Nat.zero_le _,rfl,rfl,rfl⟩ ?_ (hs:=rfl)
 rintro _ _ _ ⟨s,P,B,t,ys,ob,dn,q,bq,oq,cs,capd,rfl,hR,htx,hB,hys,hg,hc1,hp,rfl,rfl⟩
 have hk0:=hR.pos.ok
 have hv0:=hk0.val
 have hl0:=hR.left
 have hq0:=tN_le' hT hL8 hR.all
 refine Y6 ?_
 refine Yy (Zf fo_150_1) ?_
 refine Yr (Zl 0 1 ag_39) ?_
 refine Yy (Zge s.off 4) ?_
 refine Zn ?_
 refine Zc (fun h84=>?_) (fun h84=>?_)
 refine Z7 (G.block (G.seq ?_))
 obtain⟨c1,c2,c3,c4,t4,e4⟩:=four_of (t:=t) Om
 have hRc:RdT xs k len cd S s (c1::c2::c3::c4::t4):=e4▸hR
 have ht4:t.length=t4.length+4:=by rw[e4];rfl
 have htl:text.length=P.length+B.length+t.length:=by rw[htx];simp;omega
 have hys1:=hys.1
 have hset:=set4 (c1:=c1) (c2:=c2) (c3:=c3) (c4:=c4) hys.2 Om
 refine YG ?_
 refine Zcp [0] [4] (Con.some' (fun s'=>RdT xs k len cd S s' (c1::c2::c3::c4::t4)∧s'.rd≤32∧s.off≤s'.off+4∧s'.off≤s.off) (c_fillFast_Bytes bi so shi xs k len cap Om Om Om b10 0 none s Oa Oa Om Om) (RdT.fillFast hRc Oa Om)) rfl ?_
 rintro _ _ ⟨rfl,s85,⟨hR86,hfs85,hos85,hqs85⟩,rfl⟩
 have hks85:=hR86.pos.ok
 have hls85:=hR86.left
 have hvs85:=hks85.val
 refine Y2 ?_
 refine Yy (Zf fo_150_2) ?_
 refine Yr (Zl 0 2 ag_96) ?_
 obtain⟨n87,p88,hpp88,hep88,hvp88,hcp88,hap88,hbp88,hrp88,htp88,hN89⟩:=hR86.get hT hb Om
 refine Yy (Zq p88 (ZshrNd s85.val 59) (by rw[←hpp88,hL])) ?_
 refine Yy (ZcvNa p88 un_96 un_5) ?_
 refine Yy (Zx (to+p88) p88 se_81) ?_
 refine Yr (r_ldar 1 p88 rfl rfl rfl ag_115 sz_115 Oe (nats_take1E Om hep88) rfl) ?_
 refine Ze (Zal zc_115) fun b90=>?_
 refine Ys (Zsw 0 sz_115) ?_
 refine Y2 ?_
 refine Yy (Zf fo_115_0) ?_
 refine Yr (Zl 0 0 ag_78) ?_
 refine Yy (Zq n87 (ZcvWa (n87+256*c1) un_78 un_5)) ?_
 refine Zcp [1] [] (Con.some' (fun s'=>RdT xs k len cd S s' (c2::c3::c4::t4)∧s'.rd=s85.rd+n87∧s'.off=s85.off) (c_advance_Bytes (Vs bi (so+k) len cap) _ b10 0 none s85 Oa n87 Om) ⟨hN89,adv_rd Om,rfl⟩) rfl ?_
 rintro _ _ ⟨rfl,s91,⟨hR92,hds91,hos91⟩,rfl⟩
 have hks91:=hR92.pos.ok
 have hls91:=hR92.left
 have hvs91:=hks91.val
 refine Z4 ?_
 refine Zg 512 [y_0,y_1,y_2,y_3,r_4,y_5,y_6,y_7,y_8,e_9] ?_
 refine Ypa ?_
 refine Ypy (ZaddNa ob 0) ?_
 refine Ypy (Zf fo_115_0) ?_
 refine Ypr (Zl 1 0 ag_78) ?_
 refine Ypy (Zq c1 (ZshrNb (n87+256*c1) 8)) ?_
 refine Ypy (ZcvNa c1 un_78 un_5) ?_
 refine Ypy (Zxb (ob+0) (ob+0) ae_89) ?_
 refine Yps (Zsu 2 (ob+0) sz_5) ?_
 refine GP.nil (GQ.thenN (Y5 ?_))
 refine Yy (Zf fo_150_2) ?_
 refine Yr (Zl 0 2 ag_96) ?_
 obtain⟨n93,p94,hpp94,hep94,hvp94,hcp94,hap94,hbp94,hrp94,htp94,hN95⟩:=hR92.get hT hb Om
 refine Yy (Zq p94 (ZshrNd s91.val 59) (by rw[←hpp94,hL])) ?_
 refine Yy (ZcvNa p94 un_96 un_5) ?_
 refine Yy (Zx (to+p94) p94 se_81) ?_
 refine Yr (r_ldar 1 p94 rfl rfl rfl ag_115 sz_115 Oe (nats_take1E Om hep94) rfl) ?_
 refine Ys (Zsw 1 sz_115) ?_
 refine Y2 ?_
 refine Yy (Zf fo_115_0) ?_
 refine Yr (Zl 1 0 ag_78) ?_
 refine Yy (Zq n93 (ZcvWa (n93+256*c2) un_78 un_5)) ?_
 refine Zcp [0] [] (Con.some' (fun s'=>RdT xs k len cd S s' (c3::c4::t4)∧s'.rd=s91.rd+n93∧s'.off=s91.off) (c_advance_Bytes (Vs bi (so+k) len cap) _ b10 0 none s91 Oa n93 Om) ⟨hN95,adv_rd Om,rfl⟩) rfl ?_
 rintro _ _ ⟨rfl,s96,⟨hR97,hds96,hos96⟩,rfl⟩
 have hks96:=hR97.pos.ok
 have hls96:=hR97.left
 have hvs96:=hks96.val
 refine Z4 ?_
 refine Zg 512 [y_0,y_1,y_2,y_3,r_4,y_5,y_6,y_7,y_8,e_9] ?_
 refine Ypa ?_
 refine Ypy (ZaddNa ob 1) ?_
 refine Ypy (Zf fo_115_0) ?_
 refine Ypr (Zl 1 0 ag_78) ?_
 refine Ypy (Zq c2 (ZshrNb (n93+256*c2) 8)) ?_
 refine Ypy (ZcvNa c2 un_78 un_5) ?_
 refine Ypy (Zxb (ob+1) (ob+1) ae_89) ?_
 refine Yps (Zsu 2 (ob+1) sz_5) ?_
 refine GP.nil (GQ.thenN (Y5 ?_))
 refine Yy (Zf fo_150_2) ?_
 refine Yr (Zl 0 2 ag_96) ?_
 obtain⟨n98,p99,hpp99,hep99,hvp99,hcp99,hap99,hbp99,hrp99,htp99,hN100⟩:=hR97.get hT hb Om
 refine Yy (Zq p99 (ZshrNd s96.val 59) (by rw[←hpp99,hL])) ?_
 refine Yy (ZcvNa p99 un_96 un_5) ?_
 refine Yy (Zx (to+p99) p99 se_81) ?_
 refine Yr (r_ldar 1 p99 rfl rfl rfl ag_115 sz_115 Oe (nats_take1E Om hep99) rfl) ?_
 refine Ys (Zsw 1 sz_115) ?_
 refine Y2 ?_
 refine Yy (Zf fo_115_0) ?_
 refine Yr (Zl 1 0 ag_78) ?_
 refine Yy (Zq n98 (ZcvWa (n98+256*c3) un_78 un_5)) ?_
 refine Zcp [0] [] (Con.some' (fun s'=>RdT xs k len cd S s' (c4::t4)∧s'.rd=s96.rd+n98∧s'.off=s96.off) (c_advance_Bytes (Vs bi (so+k) len cap) _ b10 0 none s96 Oa n98 Om) ⟨hN100,adv_rd Om,rfl⟩) rfl ?_
 rintro _ _ ⟨rfl,s101,⟨hR102,hds101,hos101⟩,rfl⟩
 have hks101:=hR102.pos.ok
 have hls101:=hR102.left
 have hvs101:=hks101.val
 refine Z4 ?_
 refine Zg 512 [y_0,y_1,y_2,y_3,r_4,y_5,y_6,y_7,y_8,e_9] ?_
 refine Ypa ?_
 refine Ypy (ZaddNa ob 2) ?_
 refine Ypy (Zf fo_115_0) ?_
 refine Ypr (Zl 1 0 ag_78) ?_
 refine Ypy (Zq c3 (ZshrNb (n98+256*c3) 8)) ?_
 refine Ypy (ZcvNa c3 un_78 un_5) ?_
 refine Ypy (Zxb (ob+2) (ob+2) ae_89) ?_
 refine Yps (Zsu 2 (ob+2) sz_5) ?_
 refine GP.nil (GQ.thenN (Y5 ?_))
 refine Yy (Zf fo_150_2) ?_
 refine Yr (Zl 0 2 ag_96) ?_
 obtain⟨n103,p104,hpp104,hep104,hvp104,hcp104,hap104,hbp104,hrp104,htp104,hN105⟩:=hR102.get hT hb Om
 refine Yy (Zq p104 (ZshrNd s101.val 59) (by rw[←hpp104,hL])) ?_
 refine Yy (ZcvNa p104 un_96 un_5) ?_
 refine Yy (Zx (to+p104) p104 se_81) ?_
 refine Yr (r_ldar 1 p104 rfl rfl rfl ag_115 sz_115 Oe (nats_take1E Om hep104) rfl) ?_
 refine Ys (Zsw 1 sz_115) ?_
 refine Y2 ?_
 refine Yy (Zf fo_115_0) ?_
 refine Yr (Zl 1 0 ag_78) ?_
 refine Yy (Zq n103 (ZcvWa (n103+256*c4) un_78 un_5)) ?_
 refine Zcp [0] [] (Con.some' (fun s'=>RdT xs k len cd S s' t4∧s'.rd=s101.rd+n103∧s'.off=s101.off) (c_advance_Bytes (Vs bi (so+k) len cap) _ b10 0 none s101 Oa n103 Om) ⟨hN105,adv_rd Om,rfl⟩) rfl ?_
 rintro _ _ ⟨rfl,s106,⟨hR107,hds106,hos106⟩,rfl⟩
 have hks106:=hR107.pos.ok
 have hls106:=hR107.left
 have hvs106:=hks106.val
 refine Z4 ?_
 refine Zg 512 [y_0,y_1,y_2,y_3,r_4,y_5,y_6,y_7,y_8,e_9] ?_
 refine Ypa ?_
 refine Ypy (ZaddNa ob 3) ?_
 refine Ypy (Zf fo_115_0) ?_
 refine Ypr (Zl 1 0 ag_78) ?_
 refine Ypy (Zq c4 (ZshrNb (n103+256*c4) 8)) ?_
 refine Ypy (ZcvNa c4 un_78 un_5) ?_
 refine Ypy (Zxb (ob+3) (ob+3) ae_89) ?_
 refine Yps (Zsu 2 (ob+3) sz_5) ?_
 refine GP.nil (GQ.thenN (Y5 ?_))
 refine Yy (ZaddWa ob 4) ?_
 refine Y2 ?_
 refine Yy (Zeq ((ob+4)%256) 0) ?_
 refine Zn ?_
 refine Zc (fun h108=>?_) (fun h108=>?_)
 refine Y6 ?_
 refine Yy (Zlen un_22) ?_
 refine Yy (ZaddNh dn 256) ?_
 refine Yy (Zgt (dn+256) text.length) ?_
 refine Zn ?_
 refine Zc (fun h109=>?_) (fun h109=>?_)
 exfalso;omega
 refine Z7 (YG ?_)
 refine Yy (y_slA rfl rfl ae_89) ?_
 refine GL.eff (e_appN (k:=.u8) (n:=dn) (m:=256) (ys:=(((((ys.set (ob+0) c1).set (ob+1) c2).set (ob+2) c3).set (ob+3) c4).drop 0).take 256) 3 rfl rfl rfl rfl el_22 rfl rfl hg hp (Src.ofL 2 0 rfl (by first|rfl|(congr 2;omega)) (nats_src _ _ _)) Oq rfl rfl) rfl ?_
 rintro _ _ ⟨q110,b111,o112,cs113,cap114,hg115,hc116,ht117,rfl,rfl⟩
 refine Ya ?_
 refine GL.nil (GQ.blockN ?_)
 refine GQ.pick [0,1,1] rfl ?_
 exact Zb ⟨s106,(P++(B++[c1,c2,c3,c4])),[],t4,_,_,_,q110,b111,o112,cs113,cap114,rfl,hR107,by rw[htx,e4];simp,⟨Oz,Om,Om,Oz⟩,⟨by simp[hys.1],by rw[show(ob+4)%256=0 by omega];rfl⟩,hg115,hc116,(by have hh:=ht117;rw[List.drop_zero,show 256=ob+4 by omega,hset] at hh;rw[show 256=ob+4 by omega];exact hh),rfl,rfl⟩ (hs:=rfl)
 refine G.skip (GQ.blockN ?_)
 refine GQ.pick [0,1,1] rfl ?_
 exact Zb ⟨s106,P,(B++[c1,c2,c3,c4]),t4,_,_,dn,q,bq,oq,cs,capd,rfl,hR107,by rw[htx,e4];simp,⟨Oz,Om,Om,hB.2.2.2⟩,⟨by simp[hys.1],by rw[show(ob+4)%256=ob+4 by omega];exact hset⟩,hg,hc1,hp,rfl,rfl⟩ (hs:=rfl)
 refine G.exit (GQ.thenE (GQ.thenE (GQ.blockE (GQ.blockN ?_))))
 exact Zm ⟨s,P,B,t,ys,ob,dn,q,bq,oq,cs,capd,hR,htx,hB,hys,hg,hc1,hp,Om,rfl,rfl⟩
 refine Y5 ?_
 refine Yy (Zeq L 4) ?_
 refine Zn ?_
 refine Zc (fun h118=>?_) (fun h118=>?_)
 have hL:L=4:=Om
 refine G.block ?_
 refine G.pick [1,0,0] rfl ?_
 refine Zo (fun n ρ l=>∃s:BR,∃P B t ys:List Nat,∃ob dn:Nat,∃q:Option Addr,∃bq oq:Nat,∃cs:List Value,∃capd:Nat,n=t.length∧(RdT xs k len cd S s t)∧(text=P++B++t)∧(ob=B.length∧ob<256∧ob%4=0∧dn=P.length)∧(ys.length=1024∧ys.take ob=B)∧(GS q bq oq cs 1 capd)∧(dn≤capd)∧(cs.take dn=nats .u8 P)∧ρ=[(0,Vp be eo),(10,Vh text.length),(8,Vp b10 0),(12,Vp b11 0),(13,Vp b11 0),(11,Vs bt to 256 tcap),(14,Va ob),(1,.slice q dn capd)]∧l=[⟨b10,0,[Vs bi (so+k) len cap,Vd s.off,Vd s.val,Va s.rd],none⟩,⟨b11,0,(nats .u8 ys),(some (156,(nats .u8 (List.replicate 1024 0)).length))⟩,⟨bq,oq,cs,none⟩]) ⟨(BR.init 4 xs k len),[],[],text,(List.replicate 1024 0),0,0,(some ⟨bd,0,none⟩),bd,0,(nats .u8 zs),text.length,rfl,hR0,rfl,⟨rfl,Od,rfl,rfl⟩,⟨Oi,rfl⟩,⟨by simp[hzs],.inl rfl⟩,Nat.zero_le _,rfl,rfl,rfl⟩ ?_ (hs:=rfl)
 rintro _ _ _ ⟨s,P,B,t,ys,ob,dn,q,bq,oq,cs,capd,rfl,hR,htx,hB,hys,hg,hc1,hp,rfl,rfl⟩
 have hk0:=hR.pos.ok
 have hv0:=hk0.val
 have hl0:=hR.left
 have hq0:=tN_le' hT hL8 hR.all
 refine Y6 ?_
 refine Yy (Zf fo_150_1) ?_
 refine Yr (Zl 0 1 ag_39) ?_
 refine Yy (Zge s.off 4) ?_
 refine Zn ?_
 refine Zc (fun h119=>?_) (fun h119=>?_)
 refine Z7 (G.block (G.seq ?_))
 obtain⟨c1,c2,c3,c4,t4,e4⟩:=four_of (t:=t) Om
 have hRc:RdT xs k len cd S s (c1::c2::c3::c4::t4):=e4▸hR
 have ht4:t.length=t4.length+4:=by rw[e4];rfl
 have htl:text.length=P.length+B.length+t.length:=by rw[htx];simp;omega
 have hys1:=hys.1
 have hset:=set4 (c1:=c1) (c2:=c2) (c3:=c3) (c4:=c4) hys.2 Om
 refine YG ?_
 refine Zcp [0] [4] (Con.some' (fun s'=>RdT xs k len cd S s' (c1::c2::c3::c4::t4)∧s'.rd≤32∧s.off≤s'.off+4∧s'.off≤s.off) (c_fillFast_Bytes bi so shi xs k len cap Om Om Om b10 0 none s Oa Oa Om Om) (RdT.fillFast hRc Oa Om)) rfl ?_
 rintro _ _ ⟨rfl,s120,⟨hR121,hfs120,hos120,hqs120⟩,rfl⟩
 have hks120:=hR121.pos.ok
 have hls120:=hR121.left
 have hvs120:=hks120.val
 refine Y2 ?_
 refine Yy (Zf fo_150_2) ?_
 refine Yr (Zl 0 2 ag_96) ?_
 obtain⟨n122,p123,hpp123,hep123,hvp123,hcp123,hap123,hbp123,hrp123,htp123,hN124⟩:=hR121.get hT hb Om
 refine Yy (Zq p123 (ZshrNd s120.val 60) (by rw[←hpp123,hL])) ?_
 refine Yy (ZcvNa p123 un_96 un_5) ?_
 refine Yy (Zx (to+p123) p123 se_81) ?_
 refine Yr (r_ldar 1 p123 rfl rfl rfl ag_115 sz_115 Oe (nats_take1E Om hep123) rfl) ?_
 refine Ze (Zal zc_115) fun b125=>?_
 refine Ys (Zsw 0 sz_115) ?_
 refine Y2 ?_
 refine Yy (Zf fo_115_0) ?_
 refine Yr (Zl 0 0 ag_78) ?_
 refine Yy (Zq n122 (ZcvWa (n122+256*c1) un_78 un_5)) ?_
 refine Zcp [1] [] (Con.some' (fun s'=>RdT xs k len cd S s' (c2::c3::c4::t4)∧s'.rd=s120.rd+n122∧s'.off=s120.off) (c_advance_Bytes (Vs bi (so+k) len cap) _ b10 0 none s120 Oa n122 Om) ⟨hN124,adv_rd Om,rfl⟩) rfl ?_
 rintro _ _ ⟨rfl,s126,⟨hR127,hds126,hos126⟩,rfl⟩
 have hks126:=hR127.pos.ok
 have hls126:=hR127.left
 have hvs126:=hks126.val
 refine Z4 ?_
 refine Zg 512 [y_0,y_1,y_2,y_3,r_4,y_5,y_6,y_7,y_8,e_9] ?_
 refine Ypa ?_
 refine Ypy (ZaddNa ob 0) ?_
 refine Ypy (Zf fo_115_0) ?_
 refine Ypr (Zl 1 0 ag_78) ?_
 refine Ypy (Zq c1 (ZshrNb (n122+256*c1) 8)) ?_
 refine Ypy (ZcvNa c1 un_78 un_5) ?_
 refine Ypy (Zxb (ob+0) (ob+0) ae_89) ?_
 refine Yps (Zsu 2 (ob+0) sz_5) ?_
 refine GP.nil (GQ.thenN (Y5 ?_))
 refine Yy (Zf fo_150_2) ?_
 refine Yr (Zl 0 2 ag_96) ?_
 obtain⟨n128,p129,hpp129,hep129,hvp129,hcp129,hap129,hbp129,hrp129,htp129,hN130⟩:=hR127.get hT hb Om
 refine Yy (Zq p129 (ZshrNd s126.val 60) (by rw[←hpp129,hL])) ?_
 refine Yy (ZcvNa p129 un_96 un_5) ?_
 refine Yy (Zx (to+p129) p129 se_81) ?_
 refine Yr (r_ldar 1 p129 rfl rfl rfl ag_115 sz_115 Oe (nats_take1E Om hep129) rfl) ?_
 refine Ys (Zsw 1 sz_115) ?_
 refine Y2 ?_
 refine Yy (Zf fo_115_0) ?_
 refine Yr (Zl 1 0 ag_78) ?_
 refine Yy (Zq n128 (ZcvWa (n128+256*c2) un_78 un_5)) ?_
 refine Zcp [0] [] (Con.some' (fun s'=>RdT xs k len cd S s' (c3::c4::t4)∧s'.rd=s126.rd+n128∧s'.off=s126.off) (c_advance_Bytes (Vs bi (so+k) len cap) _ b10 0 none s126 Oa n128 Om) ⟨hN130,adv_rd Om,rfl⟩) rfl ?_
 rintro _ _ ⟨rfl,s131,⟨hR132,hds131,hos131⟩,rfl⟩
 have hks131:=hR132.pos.ok
 have hls131:=hR132.left
 have hvs131:=hks131.val
 refine Z4 ?_
 refine Zg 512 [y_0,y_1,y_2,y_3,r_4,y_5,y_6,y_7,y_8,e_9] ?_
 refine Ypa ?_
 refine Ypy (ZaddNa ob 1) ?_
 refine Ypy (Zf fo_115_0) ?_
 refine Ypr (Zl 1 0 ag_78) ?_
 refine Ypy (Zq c2 (ZshrNb (n128+256*c2) 8)) ?_
 refine Ypy (ZcvNa c2 un_78 un_5) ?_
 refine Ypy (Zxb (ob+1) (ob+1) ae_89) ?_
 refine Yps (Zsu 2 (ob+1) sz_5) ?_
 refine GP.nil (GQ.thenN (Y5 ?_))
 refine Yy (Zf fo_150_2) ?_
 refine Yr (Zl 0 2 ag_96) ?_
 obtain⟨n133,p134,hpp134,hep134,hvp134,hcp134,hap134,hbp134,hrp134,htp134,hN135⟩:=hR132.get hT hb Om
 refine Yy (Zq p134 (ZshrNd s131.val 60) (by rw[←hpp134,hL])) ?_
 refine Yy (ZcvNa p134 un_96 un_5) ?_
 refine Yy (Zx (to+p134) p134 se_81) ?_
 refine Yr (r_ldar 1 p134 rfl rfl rfl ag_115 sz_115 Oe (nats_take1E Om hep134) rfl) ?_
 refine Ys (Zsw 1 sz_115) ?_
 refine Y2 ?_
 refine Yy (Zf fo_115_0) ?_
 refine Yr (Zl 1 0 ag_78) ?_
 refine Yy (Zq n133 (ZcvWa (n133+256*c3) un_78 un_5)) ?_
 refine Zcp [0] [] (Con.some' (fun s'=>RdT xs k len cd S s' (c4::t4)∧s'.rd=s131.rd+n133∧s'.off=s131.off) (c_advance_Bytes (Vs bi (so+k) len cap) _ b10 0 none s131 Oa n133 Om) ⟨hN135,adv_rd Om,rfl⟩) rfl ?_
 rintro _ _ ⟨rfl,s136,⟨hR137,hds136,hos136⟩,rfl⟩
 have hks136:=hR137.pos.ok
 have hls136:=hR137.left
 have hvs136:=hks136.val
 refine Z4 ?_
 refine Zg 512 [y_0,y_1,y_2,y_3,r_4,y_5,y_6,y_7,y_8,e_9] ?_
 refine Ypa ?_
 refine Ypy (ZaddNa ob 2) ?_
 refine Ypy (Zf fo_115_0) ?_
 refine Ypr (Zl 1 0 ag_78) ?_
 refine Ypy (Zq c3 (ZshrNb (n133+256*c3) 8)) ?_
 refine Ypy (ZcvNa c3 un_78 un_5) ?_
 refine Ypy (Zxb (ob+2) (ob+2) ae_89) ?_
 refine Yps (Zsu 2 (ob+2) sz_5) ?_
 refine GP.nil (GQ.thenN (Y5 ?_))
 refine Yy (Zf fo_150_2) ?_
 refine Yr (Zl 0 2 ag_96) ?_
 obtain⟨n138,p139,hpp139,hep139,hvp139,hcp139,hap139,hbp139,hrp139,htp139,hN140⟩:=hR137.get hT hb Om
 refine Yy (Zq p139 (ZshrNd s136.val 60) (by rw[←hpp139,hL])) ?_
 refine Yy (ZcvNa p139 un_96 un_5) ?_
 refine Yy (Zx (to+p139) p139 se_81) ?_
 refine Yr (r_ldar 1 p139 rfl rfl rfl ag_115 sz_115 Oe (nats_take1E Om hep139) rfl) ?_
 refine Ys (Zsw 1 sz_115) ?_
 refine Y2 ?_
 refine Yy (Zf fo_115_0) ?_
 refine Yr (Zl 1 0 ag_78) ?_
 refine Yy (Zq n138 (ZcvWa (n138+256*c4) un_78 un_5)) ?_
 refine Zcp [0] [] (Con.some' (fun s'=>RdT xs k len cd S s' t4∧s'.rd=s136.rd+n138∧s'.off=s136.off) (c_advance_Bytes (Vs bi (so+k) len cap) _ b10 0 none s136 Oa n138 Om) ⟨hN140,adv_rd Om,rfl⟩) rfl ?_
 rintro _ _ ⟨rfl,s141,⟨hR142,hds141,hos141⟩,rfl⟩
 have hks141:=hR142.pos.ok
 have hls141:=hR142.left
 have hvs141:=hks141.val
 refine Z4 ?_
 refine Zg 512 [y_0,y_1,y_2,y_3,r_4,y_5,y_6,y_7,y_8,e_9] ?_
 refine Ypa ?_
 refine Ypy (ZaddNa ob 3) ?_
 refine Ypy (Zf fo_115_0) ?_
 refine Ypr (Zl 1 0 ag_78) ?_
 refine Ypy (Zq c4 (ZshrNb (n138+256*c4) 8)) ?_
 refine Ypy (ZcvNa c4 un_78 un_5) ?_
 refine Ypy (Zxb (ob+3) (ob+3) ae_89) ?_
 refine Yps (Zsu 2 (ob+3) sz_5) ?_
 refine GP.nil (GQ.thenN (Y5 ?_))
 refine Yy (ZaddWa ob 4) ?_
 refine Y2 ?_
 refine Yy (Zeq ((ob+4)%256) 0) ?_
 refine Zn ?_
 refine Zc (fun h143=>?_) (fun h143=>?_)
 refine Y6 ?_
 refine Yy (Zlen un_22) ?_
 refine Yy (ZaddNh dn 256) ?_
 refine Yy (Zgt (dn+256) text.length) ?_
 refine Zn ?_
 refine Zc (fun h144=>?_) (fun h144=>?_)
 exfalso;omega
 refine Z7 (YG ?_)
 refine Yy (y_slA rfl rfl ae_89) ?_
 refine GL.eff (e_appN (k:=.u8) (n:=dn) (m:=256) (ys:=(((((ys.set (ob+0) c1).set (ob+1) c2).set (ob+2) c3).set (ob+3) c4).drop 0).take 256) 3 rfl rfl rfl rfl el_22 rfl rfl hg hp (Src.ofL 2 0 rfl (by first|rfl|(congr 2;omega)) (nats_src _ _ _)) Oq rfl rfl) rfl ?_
 rintro _ _ ⟨q145,b146,o147,cs148,cap149,hg150,hc151,ht152,rfl,rfl⟩
 refine Ya ?_
 refine GL.nil (GQ.blockN ?_)
 refine GQ.pick [0,1,1] rfl ?_
 exact Zb ⟨s141,(P++(B++[c1,c2,c3,c4])),[],t4,_,_,_,q145,b146,o147,cs148,cap149,rfl,hR142,by rw[htx,e4];simp,⟨Oz,Om,Om,Oz⟩,⟨by simp[hys.1],by rw[show(ob+4)%256=0 by omega];rfl⟩,hg150,hc151,(by have hh:=ht152;rw[List.drop_zero,show 256=ob+4 by omega,hset] at hh;rw[show 256=ob+4 by omega];exact hh),rfl,rfl⟩ (hs:=rfl)
 refine G.skip (GQ.blockN ?_)
 refine GQ.pick [0,1,1] rfl ?_
 exact Zb ⟨s141,P,(B++[c1,c2,c3,c4]),t4,_,_,dn,q,bq,oq,cs,capd,rfl,hR142,by rw[htx,e4];simp,⟨Oz,Om,Om,hB.2.2.2⟩,⟨by simp[hys.1],by rw[show(ob+4)%256=ob+4 by omega];exact hset⟩,hg,hc1,hp,rfl,rfl⟩ (hs:=rfl)
 refine G.exit (GQ.thenE (GQ.thenE (GQ.blockE (GQ.blockN ?_))))
 exact Zm ⟨s,P,B,t,ys,ob,dn,q,bq,oq,cs,capd,hR,htx,hB,hys,hg,hc1,hp,Om,rfl,rfl⟩
 refine Y5 ?_
 refine Yy (Zeq L 3) ?_
 refine Zn ?_
 refine Zc (fun h153=>?_) (fun h153=>?_)
 have hL:L=3:=Om
 refine G.block ?_
 refine G.pick [1,0,0] rfl ?_
 refine Zo (fun n ρ l=>∃s:BR,∃P B t ys:List Nat,∃ob dn:Nat,∃q:Option Addr,∃bq oq:Nat,∃cs:List Value,∃capd:Nat,n=t.length∧(RdT xs k len cd S s t)∧(text=P++B++t)∧(ob=B.length∧ob<256∧ob%4=0∧dn=P.length)∧(ys.length=1024∧ys.take ob=B)∧(GS q bq oq cs 1 capd)∧(dn≤capd)∧(cs.take dn=nats .u8 P)∧ρ=[(0,Vp be eo),(10,Vh text.length),(8,Vp b10 0),(12,Vp b11 0),(13,Vp b11 0),(11,Vs bt to 256 tcap),(14,Va ob),(1,.slice q dn capd)]∧l=[⟨b10,0,[Vs bi (so+k) len cap,Vd s.off,Vd s.val,Va s.rd],none⟩,⟨b11,0,(nats .u8 ys),(some (156,(nats .u8 (List.replicate 1024 0)).length))⟩,⟨bq,oq,cs,none⟩]) ⟨(BR.init 4 xs k len),[],[],text,(List.replicate 1024 0),0,0,(some ⟨bd,0,none⟩),bd,0,(nats .u8 zs),text.length,rfl,hR0,rfl,⟨rfl,Od,rfl,rfl⟩,⟨Oi,rfl⟩,⟨by simp[hzs],.inl rfl⟩,Nat.zero_le _,rfl,rfl,rfl⟩ ?_ (hs:=rfl)
 rintro _ _ _ ⟨s,P,B,t,ys,ob,dn,q,bq,oq,cs,capd,rfl,hR,htx,hB,hys,hg,hc1,hp,rfl,rfl⟩
 have hk0:=hR.pos.ok
 have hv0:=hk0.val
 have hl0:=hR.left
 have hq0:=tN_le' hT hL8 hR.all
 refine Y6 ?_
 refine Yy (Zf fo_150_1) ?_
 refine Yr (Zl 0 1 ag_39) ?_
 refine Yy (Zge s.off 4) ?_
 refine Zn ?_
 refine Zc (fun h154=>?_) (fun h154=>?_)
 refine Z7 (G.block (G.seq ?_))
 obtain⟨c1,c2,c3,c4,t4,e4⟩:=four_of (t:=t) Om
 have hRc:RdT xs k len cd S s (c1::c2::c3::c4::t4):=e4▸hR
 have ht4:t.length=t4.length+4:=by rw[e4];rfl
 have htl:text.length=P.length+B.length+t.length:=by rw[htx];simp;omega
 have hys1:=hys.1
 have hset:=set4 (c1:=c1) (c2:=c2) (c3:=c3) (c4:=c4) hys.2 Om
 refine YG ?_
 refine Zcp [0] [4] (Con.some' (fun s'=>RdT xs k len cd S s' (c1::c2::c3::c4::t4)∧s'.rd≤32∧s.off≤s'.off+4∧s'.off≤s.off) (c_fillFast_Bytes bi so shi xs k len cap Om Om Om b10 0 none s Oa Oa Om Om) (RdT.fillFast hRc Oa Om)) rfl ?_
 rintro _ _ ⟨rfl,s155,⟨hR156,hfs155,hos155,hqs155⟩,rfl⟩
 have hks155:=hR156.pos.ok
 have hls155:=hR156.left
 have hvs155:=hks155.val
 refine Y2 ?_
 refine Yy (Zf fo_150_2) ?_
 refine Yr (Zl 0 2 ag_96) ?_
 obtain⟨n157,p158,hpp158,hep158,hvp158,hcp158,hap158,hbp158,hrp158,htp158,hN159⟩:=hR156.get hT hb Om
 refine Yy (Zq p158 (ZshrNd s155.val 61) (by rw[←hpp158,hL])) ?_
 refine Yy (ZcvNa p158 un_96 un_5) ?_
 refine Yy (Zx (to+p158) p158 se_81) ?_
 refine Yr (r_ldar 1 p158 rfl rfl rfl ag_115 sz_115 Oe (nats_take1E Om hep158) rfl) ?_
 refine Ze (Zal zc_115) fun b160=>?_
 refine Ys (Zsw 0 sz_115) ?_
 refine Y2 ?_
 refine Yy (Zf fo_115_0) ?_
 refine Yr (Zl 0 0 ag_78) ?_
 refine Yy (Zq n157 (ZcvWa (n157+256*c1) un_78 un_5)) ?_
 refine Zcp [1] [] (Con.some' (fun s'=>RdT xs k len cd S s' (c2::c3::c4::t4)∧s'.rd=s155.rd+n157∧s'.off=s155.off) (c_advance_Bytes (Vs bi (so+k) len cap) _ b10 0 none s155 Oa n157 Om) ⟨hN159,adv_rd Om,rfl⟩) rfl ?_
 rintro _ _ ⟨rfl,s161,⟨hR162,hds161,hos161⟩,rfl⟩
 have hks161:=hR162.pos.ok
 have hls161:=hR162.left
 have hvs161:=hks161.val
 refine Z4 ?_
 refine Zg 512 [y_0,y_1,y_2,y_3,r_4,y_5,y_6,y_7,y_8,e_9] ?_
 refine Ypa ?_
 refine Ypy (ZaddNa ob 0) ?_
 refine Ypy (Zf fo_115_0) ?_
 refine Ypr (Zl 1 0 ag_78) ?_
 refine Ypy (Zq c1 (ZshrNb (n157+256*c1) 8)) ?_
 refine Ypy (ZcvNa c1 un_78 un_5) ?_
 refine Ypy (Zxb (ob+0) (ob+0) ae_89) ?_
 refine Yps (Zsu 2 (ob+0) sz_5) ?_
 refine GP.nil (GQ.thenN (Y5 ?_))
 refine Yy (Zf fo_150_2) ?_
 refine Yr (Zl 0 2 ag_96) ?_
 obtain⟨n163,p164,hpp164,hep164,hvp164,hcp164,hap164,hbp164,hrp164,htp164,hN165⟩:=hR162.get hT hb Om
 refine Yy (Zq p164 (ZshrNd s161.val 61) (by rw[←hpp164,hL])) ?_
 refine Yy (ZcvNa p164 un_96 un_5) ?_
 refine Yy (Zx (to+p164) p164 se_81) ?_
 refine Yr (r_ldar 1 p164 rfl rfl rfl ag_115 sz_115 Oe (nats_take1E Om hep164) rfl) ?_
 refine Ys (Zsw 1 sz_115) ?_
 refine Y2 ?_
 refine Yy (Zf fo_115_0) ?_
 refine Yr (Zl 1 0 ag_78) ?_
 refine Yy (Zq n163 (ZcvWa (n163+256*c2) un_78 un_5)) ?_
 refine Zcp [0] [] (Con.some' (fun s'=>RdT xs k len cd S s' (c3::c4::t4)∧s'.rd=s161.rd+n163∧s'.off=s161.off) (c_advance_Bytes (Vs bi (so+k) len cap) _ b10 0 none s161 Oa n163 Om) ⟨hN165,adv_rd Om,rfl⟩) rfl ?_
 rintro _ _ ⟨rfl,s166,⟨hR167,hds166,hos166⟩,rfl⟩
 have hks166:=hR167.pos.ok
 have hls166:=hR167.left
 have hvs166:=hks166.val
 refine Z4 ?_
 refine Zg 512 [y_0,y_1,y_2,y_3,r_4,y_5,y_6,y_7,y_8,e_9] ?_
 refine Ypa ?_
 refine Ypy (ZaddNa ob 1) ?_
 refine Ypy (Zf fo_115_0) ?_
 refine Ypr (Zl 1 0 ag_78) ?_
 refine Ypy (Zq c2 (ZshrNb (n163+256*c2) 8)) ?_
 refine Ypy (ZcvNa c2 un_78 un_5) ?_
 refine Ypy (Zxb (ob+1) (ob+1) ae_89) ?_
 refine Yps (Zsu 2 (ob+1) sz_5) ?_
 refine GP.nil (GQ.thenN (Y5 ?_))
 refine Yy (Zf fo_150_2) ?_
 refine Yr (Zl 0 2 ag_96) ?_
 obtain⟨n168,p169,hpp169,hep169,hvp169,hcp169,hap169,hbp169,hrp169,htp169,hN170⟩:=hR167.get hT hb Om
 refine Yy (Zq p169 (ZshrNd s166.val 61) (by rw[←hpp169,hL])) ?_
 refine Yy (ZcvNa p169 un_96 un_5) ?_
 refine Yy (Zx (to+p169) p169 se_81) ?_
 refine Yr (r_ldar 1 p169 rfl rfl rfl ag_115 sz_115 Oe (nats_take1E Om hep169) rfl) ?_
 refine Ys (Zsw 1 sz_115) ?_
 refine Y2 ?_
 refine Yy (Zf fo_115_0) ?_
 refine Yr (Zl 1 0 ag_78) ?_
 refine Yy (Zq n168 (ZcvWa (n168+256*c3) un_78 un_5)) ?_
 refine Zcp [0] [] (Con.some' (fun s'=>RdT xs k len cd S s' (c4::t4)∧s'.rd=s166.rd+n168∧s'.off=s166.off) (c_advance_Bytes (Vs bi (so+k) len cap) _ b10 0 none s166 Oa n168 Om) ⟨hN170,adv_rd Om,rfl⟩) rfl ?_
 rintro _ _ ⟨rfl,s171,⟨hR172,hds171,hos171⟩,rfl⟩
 have hks171:=hR172.pos.ok
 have hls171:=hR172.left
 have hvs171:=hks171.val
 refine Z4 ?_
 refine Zg 512 [y_0,y_1,y_2,y_3,r_4,y_5,y_6,y_7,y_8,e_9] ?_
 refine Ypa ?_
 refine Ypy (ZaddNa ob 2) ?_
 refine Ypy (Zf fo_115_0) ?_
 refine Ypr (Zl 1 0 ag_78) ?_
 refine Ypy (Zq c3 (ZshrNb (n168+256*c3) 8)) ?_
 refine Ypy (ZcvNa c3 un_78 un_5) ?_
 refine Ypy (Zxb (ob+2) (ob+2) ae_89) ?_
 refine Yps (Zsu 2 (ob+2) sz_5) ?_
 refine GP.nil (GQ.thenN (Y5 ?_))
 refine Yy (Zf fo_150_2) ?_
 refine Yr (Zl 0 2 ag_96) ?_
 obtain⟨n173,p174,hpp174,hep174,hvp174,hcp174,hap174,hbp174,hrp174,htp174,hN175⟩:=hR172.get hT hb Om
 refine Yy (Zq p174 (ZshrNd s171.val 61) (by rw[←hpp174,hL])) ?_
 refine Yy (ZcvNa p174 un_96 un_5) ?_
 refine Yy (Zx (to+p174) p174 se_81) ?_
 refine Yr (r_ldar 1 p174 rfl rfl rfl ag_115 sz_115 Oe (nats_take1E Om hep174) rfl) ?_
 refine Ys (Zsw 1 sz_115) ?_
 refine Y2 ?_
 refine Yy (Zf fo_115_0) ?_
 refine Yr (Zl 1 0 ag_78) ?_
 refine Yy (Zq n173 (ZcvWa (n173+256*c4) un_78 un_5)) ?_
 refine Zcp [0] [] (Con.some' (fun s'=>RdT xs k len cd S s' t4∧s'.rd=s171.rd+n173∧s'.off=s171.off) (c_advance_Bytes (Vs bi (so+k) len cap) _ b10 0 none s171 Oa n173 Om) ⟨hN175,adv_rd Om,rfl⟩) rfl ?_
 rintro _ _ ⟨rfl,s176,⟨hR177,hds176,hos176⟩,rfl⟩
 have hks176:=hR177.pos.ok
 have hls176:=hR177.left
 have hvs176:=hks176.val
 refine Z4 ?_
 refine Zg 512 [y_0,y_1,y_2,y_3,r_4,y_5,y_6,y_7,y_8,e_9] ?_
 refine Ypa ?_
 refine Ypy (ZaddNa ob 3) ?_
 refine Ypy (Zf fo_115_0) ?_
 refine Ypr (Zl 1 0 ag_78) ?_
 refine Ypy (Zq c4 (ZshrNb (n173+256*c4) 8)) ?_
 refine Ypy (ZcvNa c4 un_78 un_5) ?_
 refine Ypy (Zxb (ob+3) (ob+3) ae_89) ?_
 refine Yps (Zsu 2 (ob+3) sz_5) ?_
 refine GP.nil (GQ.thenN (Y5 ?_))
 refine Yy (ZaddWa ob 4) ?_
 refine Y2 ?_
 refine Yy (Zeq ((ob+4)%256) 0) ?_
 refine Zn ?_
 refine Zc (fun h178=>?_) (fun h178=>?_)
 refine Y6 ?_
 refine Yy (Zlen un_22) ?_
 refine Yy (ZaddNh dn 256) ?_
 refine Yy (Zgt (dn+256) text.length) ?_
 refine Zn ?_
 refine Zc (fun h179=>?_) (fun h179=>?_)
 exfalso;omega
 refine Z7 (YG ?_)
 refine Yy (y_slA rfl rfl ae_89) ?_
 refine GL.eff (e_appN (k:=.u8) (n:=dn) (m:=256) (ys:=(((((ys.set (ob+0) c1).set (ob+1) c2).set (ob+2) c3).set (ob+3) c4).drop 0).take 256) 3 rfl rfl rfl rfl el_22 rfl rfl hg hp (Src.ofL 2 0 rfl (by first|rfl|(congr 2;omega)) (nats_src _ _ _)) Oq rfl rfl) rfl ?_
 rintro _ _ ⟨q180,b181,o182,cs183,cap184,hg185,hc186,ht187,rfl,rfl⟩
 refine Ya ?_
 refine GL.nil (GQ.blockN ?_)
 refine GQ.pick [0,1,1] rfl ?_
 exact Zb ⟨s176,(P++(B++[c1,c2,c3,c4])),[],t4,_,_,_,q180,b181,o182,cs183,cap184,rfl,hR177,by rw[htx,e4];simp,⟨Oz,Om,Om,Oz⟩,⟨by simp[hys.1],by rw[show(ob+4)%256=0 by omega];rfl⟩,hg185,hc186,(by have hh:=ht187;rw[List.drop_zero,show 256=ob+4 by omega,hset] at hh;rw[show 256=ob+4 by omega];exact hh),rfl,rfl⟩ (hs:=rfl)
 refine G.skip (GQ.blockN ?_)
 refine GQ.pick [0,1,1] rfl ?_
 exact Zb ⟨s176,P,(B++[c1,c2,c3,c4]),t4,_,_,dn,q,bq,oq,cs,capd,rfl,hR177,by rw[htx,e4];simp,⟨Oz,Om,Om,hB.2.2.2⟩,⟨by simp[hys.1],by rw[show(ob+4)%256=ob+4 by omega];exact hset⟩,hg,hc1,hp,rfl,rfl⟩ (hs:=rfl)
 refine G.exit (GQ.thenE (GQ.thenE (GQ.blockE (GQ.blockN ?_))))
 exact Zm ⟨s,P,B,t,ys,ob,dn,q,bq,oq,cs,capd,hR,htx,hB,hys,hg,hc1,hp,Om,rfl,rfl⟩
 refine Y5 ?_
 refine Yy (Zeq L 2) ?_
 refine Zn ?_
 refine Zc (fun h188=>?_) (fun h188=>?_)
 have hL:L=2:=Om
 refine G.block ?_
 refine G.pick [1,0,0] rfl ?_
 refine Zo (fun n ρ l=>∃s:BR,∃P B t ys:List Nat,∃ob dn:Nat,∃q:Option Addr,∃bq oq:Nat,∃cs:List Value,∃capd:Nat,n=t.length∧(RdT xs k len cd S s t)∧(text=P++B++t)∧(ob=B.length∧ob<256∧ob%4=0∧dn=P.length)∧(ys.length=1024∧ys.take ob=B)∧(GS q bq oq cs 1 capd)∧(dn≤capd)∧(cs.take dn=nats .u8 P)∧ρ=[(0,Vp be eo),(10,Vh text.length),(8,Vp b10 0),(12,Vp b11 0),(13,Vp b11 0),(11,Vs bt to 256 tcap),(14,Va ob),(1,.slice q dn capd)]∧l=[⟨b10,0,[Vs bi (so+k) len cap,Vd s.off,Vd s.val,Va s.rd],none⟩,⟨b11,0,(nats .u8 ys),(some (156,(nats .u8 (List.replicate 1024 0)).length))⟩,⟨bq,oq,cs,none⟩]) ⟨(BR.init 4 xs k len),[],[],text,(List.replicate 1024 0),0,0,(some ⟨bd,0,none⟩),bd,0,(nats .u8 zs),text.length,rfl,hR0,rfl,⟨rfl,Od,rfl,rfl⟩,⟨Oi,rfl⟩,⟨by simp[hzs],.inl rfl⟩,Nat.zero_le _,rfl,rfl,rfl⟩ ?_ (hs:=rfl)
 rintro _ _ _ ⟨s,P,B,t,ys,ob,dn,q,bq,oq,cs,capd,rfl,hR,htx,hB,hys,hg,hc1,hp,rfl,rfl⟩
 have hk0:=hR.pos.ok
 have hv0:=hk0.val
 have hl0:=hR.left
 have hq0:=tN_le' hT hL8 hR.all
 refine Y6 ?_
 refine Yy (Zf fo_150_1) ?_
 refine Yr (Zl 0 1 ag_39) ?_
 refine Yy (Zge s.off 4) ?_
 refine Zn ?_
 refine Zc (fun h189=>?_) (fun h189=>?_)
 refine Z7 (G.block (G.seq ?_))
 obtain⟨c1,c2,c3,c4,t4,e4⟩:=four_of (t:=t) Om
 have hRc:RdT xs k len cd S s (c1::c2::c3::c4::t4):=e4▸hR
 have ht4:t.length=t4.length+4:=by rw[e4];rfl
 have htl:text.length=P.length+B.length+t.length:=by rw[htx];simp;omega
 have hys1:=hys.1
 have hset:=set4 (c1:=c1) (c2:=c2) (c3:=c3) (c4:=c4) hys.2 Om
 refine YG ?_
 refine Zcp [0] [4] (Con.some' (fun s'=>RdT xs k len cd S s' (c1::c2::c3::c4::t4)∧s'.rd≤32∧s.off≤s'.off+4∧s'.off≤s.off) (c_fillFast_Bytes bi so shi xs k len cap Om Om Om b10 0 none s Oa Oa Om Om) (RdT.fillFast hRc Oa Om)) rfl ?_
 rintro _ _ ⟨rfl,s190,⟨hR191,hfs190,hos190,hqs190⟩,rfl⟩
 have hks190:=hR191.pos.ok
 have hls190:=hR191.left
 have hvs190:=hks190.val
 refine Y2 ?_
 refine Yy (Zf fo_150_2) ?_
 refine Yr (Zl 0 2 ag_96) ?_
 obtain⟨n192,p193,hpp193,hep193,hvp193,hcp193,hap193,hbp193,hrp193,htp193,hN194⟩:=hR191.get hT hb Om
 refine Yy (Zq p193 (ZshrNd s190.val 62) (by rw[←hpp193,hL])) ?_
 refine Yy (ZcvNa p193 un_96 un_5) ?_
 refine Yy (Zx (to+p193) p193 se_81) ?_
 refine Yr (r_ldar 1 p193 rfl rfl rfl ag_115 sz_115 Oe (nats_take1E Om hep193) rfl) ?_
 refine Ze (Zal zc_115) fun b195=>?_
 refine Ys (Zsw 0 sz_115) ?_
 refine Y2 ?_
 refine Yy (Zf fo_115_0) ?_
 refine Yr (Zl 0 0 ag_78) ?_
 refine Yy (Zq n192 (ZcvWa (n192+256*c1) un_78 un_5)) ?_
 refine Zcp [1] [] (Con.some' (fun s'=>RdT xs k len cd S s' (c2::c3::c4::t4)∧s'.rd=s190.rd+n192∧s'.off=s190.off) (c_advance_Bytes (Vs bi (so+k) len cap) _ b10 0 none s190 Oa n192 Om) ⟨hN194,adv_rd Om,rfl⟩) rfl ?_
 rintro _ _ ⟨rfl,s196,⟨hR197,hds196,hos196⟩,rfl⟩
 have hks196:=hR197.pos.ok
 have hls196:=hR197.left
 have hvs196:=hks196.val
 refine Z4 ?_
 refine Zg 512 [y_0,y_1,y_2,y_3,r_4,y_5,y_6,y_7,y_8,e_9] ?_
 refine Ypa ?_
 refine Ypy (ZaddNa ob 0) ?_
 refine Ypy (Zf fo_115_0) ?_
 refine Ypr (Zl 1 0 ag_78) ?_
 refine Ypy (Zq c1 (ZshrNb (n192+256*c1) 8)) ?_
 refine Ypy (ZcvNa c1 un_78 un_5) ?_
 refine Ypy (Zxb (ob+0) (ob+0) ae_89) ?_
 refine Yps (Zsu 2 (ob+0) sz_5) ?_
 refine GP.nil (GQ.thenN (Y5 ?_))
 refine Yy (Zf fo_150_2) ?_
 refine Yr (Zl 0 2 ag_96) ?_
 obtain⟨n198,p199,hpp199,hep199,hvp199,hcp199,hap199,hbp199,hrp199,htp199,hN200⟩:=hR197.get hT hb Om
 refine Yy (Zq p199 (ZshrNd s196.val 62) (by rw[←hpp199,hL])) ?_
 refine Yy (ZcvNa p199 un_96 un_5) ?_
 refine Yy (Zx (to+p199) p199 se_81) ?_
 refine Yr (r_ldar 1 p199 rfl rfl rfl ag_115 sz_115 Oe (nats_take1E Om hep199) rfl) ?_
 refine Ys (Zsw 1 sz_115) ?_
 refine Y2 ?_
 refine Yy (Zf fo_115_0) ?_
 refine Yr (Zl 1 0 ag_78) ?_
 refine Yy (Zq n198 (ZcvWa (n198+256*c2) un_78 un_5)) ?_
 refine Zcp [0] [] (Con.some' (fun s'=>RdT xs k len cd S s' (c3::c4::t4)∧s'.rd=s196.rd+n198∧s'.off=s196.off) (c_advance_Bytes (Vs bi (so+k) len cap) _ b10 0 none s196 Oa n198 Om) ⟨hN200,adv_rd Om,rfl⟩) rfl ?_
 rintro _ _ ⟨rfl,s201,⟨hR202,hds201,hos201⟩,rfl⟩
 have hks201:=hR202.pos.ok
 have hls201:=hR202.left
 have hvs201:=hks201.val
 refine Z4 ?_
 refine Zg 512 [y_0,y_1,y_2,y_3,r_4,y_5,y_6,y_7,y_8,e_9] ?_
 refine Ypa ?_
 refine Ypy (ZaddNa ob 1) ?_
 refine Ypy (Zf fo_115_0) ?_
 refine Ypr (Zl 1 0 ag_78) ?_
 refine Ypy (Zq c2 (ZshrNb (n198+256*c2) 8)) ?_
 refine Ypy (ZcvNa c2 un_78 un_5) ?_
 refine Ypy (Zxb (ob+1) (ob+1) ae_89) ?_
 refine Yps (Zsu 2 (ob+1) sz_5) ?_
 refine GP.nil (GQ.thenN (Y5 ?_))
 refine Yy (Zf fo_150_2) ?_
 refine Yr (Zl 0 2 ag_96) ?_
 obtain⟨n203,p204,hpp204,hep204,hvp204,hcp204,hap204,hbp204,hrp204,htp204,hN205⟩:=hR202.get hT hb Om
 refine Yy (Zq p204 (ZshrNd s201.val 62) (by rw[←hpp204,hL])) ?_
 refine Yy (ZcvNa p204 un_96 un_5) ?_
 refine Yy (Zx (to+p204) p204 se_81) ?_
 refine Yr (r_ldar 1 p204 rfl rfl rfl ag_115 sz_115 Oe (nats_take1E Om hep204) rfl) ?_
 refine Ys (Zsw 1 sz_115) ?_
 refine Y2 ?_
 refine Yy (Zf fo_115_0) ?_
 refine Yr (Zl 1 0 ag_78) ?_
 refine Yy (Zq n203 (ZcvWa (n203+256*c3) un_78 un_5)) ?_
 refine Zcp [0] [] (Con.some' (fun s'=>RdT xs k len cd S s' (c4::t4)∧s'.rd=s201.rd+n203∧s'.off=s201.off) (c_advance_Bytes (Vs bi (so+k) len cap) _ b10 0 none s201 Oa n203 Om) ⟨hN205,adv_rd Om,rfl⟩) rfl ?_
 rintro _ _ ⟨rfl,s206,⟨hR207,hds206,hos206⟩,rfl⟩
 have hks206:=hR207.pos.ok
 have hls206:=hR207.left
 have hvs206:=hks206.val
 refine Z4 ?_
 refine Zg 512 [y_0,y_1,y_2,y_3,r_4,y_5,y_6,y_7,y_8,e_9] ?_
 refine Ypa ?_
 refine Ypy (ZaddNa ob 2) ?_
 refine Ypy (Zf fo_115_0) ?_
 refine Ypr (Zl 1 0 ag_78) ?_
 refine Ypy (Zq c3 (ZshrNb (n203+256*c3) 8)) ?_
 refine Ypy (ZcvNa c3 un_78 un_5) ?_
 refine Ypy (Zxb (ob+2) (ob+2) ae_89) ?_
 refine Yps (Zsu 2 (ob+2) sz_5) ?_
 refine GP.nil (GQ.thenN (Y5 ?_))
 refine Yy (Zf fo_150_2) ?_
 refine Yr (Zl 0 2 ag_96) ?_
 obtain⟨n208,p209,hpp209,hep209,hvp209,hcp209,hap209,hbp209,hrp209,htp209,hN210⟩:=hR207.get hT hb Om
 refine Yy (Zq p209 (ZshrNd s206.val 62) (by rw[←hpp209,hL])) ?_
 refine Yy (ZcvNa p209 un_96 un_5) ?_
 refine Yy (Zx (to+p209) p209 se_81) ?_
 refine Yr (r_ldar 1 p209 rfl rfl rfl ag_115 sz_115 Oe (nats_take1E Om hep209) rfl) ?_
 refine Ys (Zsw 1 sz_115) ?_
 refine Y2 ?_
 refine Yy (Zf fo_115_0) ?_
 refine Yr (Zl 1 0 ag_78) ?_
 refine Yy (Zq n208 (ZcvWa (n208+256*c4) un_78 un_5)) ?_
 refine Zcp [0] [] (Con.some' (fun s'=>RdT xs k len cd S s' t4∧s'.rd=s206.rd+n208∧s'.off=s206.off) (c_advance_Bytes (Vs bi (so+k) len cap) _ b10 0 none s206 Oa n208 Om) ⟨hN210,adv_rd Om,rfl⟩) rfl ?_
 rintro _ _ ⟨rfl,s211,⟨hR212,hds211,hos211⟩,rfl⟩
 have hks211:=hR212.pos.ok
 have hls211:=hR212.left
 have hvs211:=hks211.val
 refine Z4 ?_
 refine Zg 512 [y_0,y_1,y_2,y_3,r_4,y_5,y_6,y_7,y_8,e_9] ?_
 refine Ypa ?_
 refine Ypy (ZaddNa ob 3) ?_
 refine Ypy (Zf fo_115_0) ?_
 refine Ypr (Zl 1 0 ag_78) ?_
 refine Ypy (Zq c4 (ZshrNb (n208+256*c4) 8)) ?_
 refine Ypy (ZcvNa c4 un_78 un_5) ?_
 refine Ypy (Zxb (ob+3) (ob+3) ae_89) ?_
 refine Yps (Zsu 2 (ob+3) sz_5) ?_
 refine GP.nil (GQ.thenN (Y5 ?_))
 refine Yy (ZaddWa ob 4) ?_
 refine Y2 ?_
 refine Yy (Zeq ((ob+4)%256) 0) ?_
 refine Zn ?_
 refine Zc (fun h213=>?_) (fun h213=>?_)
 refine Y6 ?_
 refine Yy (Zlen un_22) ?_
 refine Yy (ZaddNh dn 256) ?_
 refine Yy (Zgt (dn+256) text.length) ?_
 refine Zn ?_
 refine Zc (fun h214=>?_) (fun h214=>?_)
 exfalso;omega
 refine Z7 (YG ?_)
 refine Yy (y_slA rfl rfl ae_89) ?_
 refine GL.eff (e_appN (k:=.u8) (n:=dn) (m:=256) (ys:=(((((ys.set (ob+0) c1).set (ob+1) c2).set (ob+2) c3).set (ob+3) c4).drop 0).take 256) 3 rfl rfl rfl rfl el_22 rfl rfl hg hp (Src.ofL 2 0 rfl (by first|rfl|(congr 2;omega)) (nats_src _ _ _)) Oq rfl rfl) rfl ?_
 rintro _ _ ⟨q215,b216,o217,cs218,cap219,hg220,hc221,ht222,rfl,rfl⟩
 refine Ya ?_
 refine GL.nil (GQ.blockN ?_)
 refine GQ.pick [0,1,1] rfl ?_
 exact Zb ⟨s211,(P++(B++[c1,c2,c3,c4])),[],t4,_,_,_,q215,b216,o217,cs218,cap219,rfl,hR212,by rw[htx,e4];simp,⟨Oz,Om,Om,Oz⟩,⟨by simp[hys.1],by rw[show(ob+4)%256=0 by omega];rfl⟩,hg220,hc221,(by have hh:=ht222;rw[List.drop_zero,show 256=ob+4 by omega,hset] at hh;rw[show 256=ob+4 by omega];exact hh),rfl,rfl⟩ (hs:=rfl)
 refine G.skip (GQ.blockN ?_)
 refine GQ.pick [0,1,1] rfl ?_
 exact Zb ⟨s211,P,(B++[c1,c2,c3,c4]),t4,_,_,dn,q,bq,oq,cs,capd,rfl,hR212,by rw[htx,e4];simp,⟨Oz,Om,Om,hB.2.2.2⟩,⟨by simp[hys.1],by rw[show(ob+4)%256=ob+4 by omega];exact hset⟩,hg,hc1,hp,rfl,rfl⟩ (hs:=rfl)
 refine G.exit (GQ.thenE (GQ.thenE (GQ.blockE (GQ.blockN ?_))))
 exact Zm ⟨s,P,B,t,ys,ob,dn,q,bq,oq,cs,capd,hR,htx,hB,hys,hg,hc1,hp,Om,rfl,rfl⟩
 refine Y5 ?_
 refine Yy (Zeq L 1) ?_
 refine Zn ?_
 refine Zc (fun h223=>?_) (fun h223=>?_)
 have hL:L=1:=Om
 refine G.block ?_
 refine G.pick [1,0,0] rfl ?_
 refine Zo (fun n ρ l=>∃s:BR,∃P B t ys:List Nat,∃ob dn:Nat,∃q:Option Addr,∃bq oq:Nat,∃cs:List Value,∃capd:Nat,n=t.length∧(RdT xs k len cd S s t)∧(text=P++B++t)∧(ob=B.length∧ob<256∧ob%4=0∧dn=P.length)∧(ys.length=1024∧ys.take ob=B)∧(GS q bq oq cs 1 capd)∧(dn≤capd)∧(cs.take dn=nats .u8 P)∧ρ=[(0,Vp be eo),(10,Vh text.length),(8,Vp b10 0),(12,Vp b11 0),(13,Vp b11 0),(11,Vs bt to 256 tcap),(14,Va ob),(1,.slice q dn capd)]∧l=[⟨b10,0,[Vs bi (so+k) len cap,Vd s.off,Vd s.val,Va s.rd],none⟩,⟨b11,0,(nats .u8 ys),(some (156,(nats .u8 (List.replicate 1024 0)).length))⟩,⟨bq,oq,cs,none⟩]) ⟨(BR.init 4 xs k len),[],[],text,(List.replicate 1024 0),0,0,(some ⟨bd,0,none⟩),bd,0,(nats .u8 zs),text.length,rfl,hR0,rfl,⟨rfl,Od,rfl,rfl⟩,⟨Oi,rfl⟩,⟨by simp[hzs],.inl rfl⟩,Nat.zero_le _,rfl,rfl,rfl⟩ ?_ (hs:=rfl)
 rintro _ _ _ ⟨s,P,B,t,ys,ob,dn,q,bq,oq,cs,capd,rfl,hR,htx,hB,hys,hg,hc1,hp,rfl,rfl⟩
 have hk0:=hR.pos.ok
 have hv0:=hk0.val
 have hl0:=hR.left
 have hq0:=tN_le' hT hL8 hR.all
 refine Y6 ?_
 refine Yy (Zf fo_150_1) ?_
 refine Yr (Zl 0 1 ag_39) ?_
 refine Yy (Zge s.off 4) ?_
 refine Zn ?_
 refine Zc (fun h224=>?_) (fun h224=>?_)
 refine Z7 (G.block (G.seq ?_))
 obtain⟨c1,c2,c3,c4,t4,e4⟩:=four_of (t:=t) Om
 have hRc:RdT xs k len cd S s (c1::c2::c3::c4::t4):=e4▸hR
 have ht4:t.length=t4.length+4:=by rw[e4];rfl
 have htl:text.length=P.length+B.length+t.length:=by rw[htx];simp;omega
 have hys1:=hys.1
 have hset:=set4 (c1:=c1) (c2:=c2) (c3:=c3) (c4:=c4) hys.2 Om
 refine YG ?_
 refine Zcp [0] [4] (Con.some' (fun s'=>RdT xs k len cd S s' (c1::c2::c3::c4::t4)∧s'.rd≤32∧s.off≤s'.off+4∧s'.off≤s.off) (c_fillFast_Bytes bi so shi xs k len cap Om Om Om b10 0 none s Oa Oa Om Om) (RdT.fillFast hRc Oa Om)) rfl ?_
 rintro _ _ ⟨rfl,s225,⟨hR226,hfs225,hos225,hqs225⟩,rfl⟩
 have hks225:=hR226.pos.ok
 have hls225:=hR226.left
 have hvs225:=hks225.val
 refine Y2 ?_
 refine Yy (Zf fo_150_2) ?_
 refine Yr (Zl 0 2 ag_96) ?_
 obtain⟨n227,p228,hpp228,hep228,hvp228,hcp228,hap228,hbp228,hrp228,htp228,hN229⟩:=hR226.get hT hb Om
 refine Yy (Zq p228 (ZshrNd s225.val 63) (by rw[←hpp228,hL])) ?_
 refine Yy (ZcvNa p228 un_96 un_5) ?_
 refine Yy (Zx (to+p228) p228 se_81) ?_
 refine Yr (r_ldar 1 p228 rfl rfl rfl ag_115 sz_115 Oe (nats_take1E Om hep228) rfl) ?_
 refine Ze (Zal zc_115) fun b230=>?_
 refine Ys (Zsw 0 sz_115) ?_
 refine Y2 ?_
 refine Yy (Zf fo_115_0) ?_
 refine Yr (Zl 0 0 ag_78) ?_
 refine Yy (Zq n227 (ZcvWa (n227+256*c1) un_78 un_5)) ?_
 refine Zcp [1] [] (Con.some' (fun s'=>RdT xs k len cd S s' (c2::c3::c4::t4)∧s'.rd=s225.rd+n227∧s'.off=s225.off) (c_advance_Bytes (Vs bi (so+k) len cap) _ b10 0 none s225 Oa n227 Om) ⟨hN229,adv_rd Om,rfl⟩) rfl ?_
 rintro _ _ ⟨rfl,s231,⟨hR232,hds231,hos231⟩,rfl⟩
 have hks231:=hR232.pos.ok
 have hls231:=hR232.left
 have hvs231:=hks231.val
 refine Z4 ?_
 refine Zg 512 [y_0,y_1,y_2,y_3,r_4,y_5,y_6,y_7,y_8,e_9] ?_
 refine Ypa ?_
 refine Ypy (ZaddNa ob 0) ?_
 refine Ypy (Zf fo_115_0) ?_
 refine Ypr (Zl 1 0 ag_78) ?_
 refine Ypy (Zq c1 (ZshrNb (n227+256*c1) 8)) ?_
 refine Ypy (ZcvNa c1 un_78 un_5) ?_
 refine Ypy (Zxb (ob+0) (ob+0) ae_89) ?_
 refine Yps (Zsu 2 (ob+0) sz_5) ?_
 refine GP.nil (GQ.thenN (Y5 ?_))
 refine Yy (Zf fo_150_2) ?_
 refine Yr (Zl 0 2 ag_96) ?_
 obtain⟨n233,p234,hpp234,hep234,hvp234,hcp234,hap234,hbp234,hrp234,htp234,hN235⟩:=hR232.get hT hb Om
 refine Yy (Zq p234 (ZshrNd s231.val 63) (by rw[←hpp234,hL])) ?_
 refine Yy (ZcvNa p234 un_96 un_5) ?_
 refine Yy (Zx (to+p234) p234 se_81) ?_
 refine Yr (r_ldar 1 p234 rfl rfl rfl ag_115 sz_115 Oe (nats_take1E Om hep234) rfl) ?_
 refine Ys (Zsw 1 sz_115) ?_
 refine Y2 ?_
 refine Yy (Zf fo_115_0) ?_
 refine Yr (Zl 1 0 ag_78) ?_
 refine Yy (Zq n233 (ZcvWa (n233+256*c2) un_78 un_5)) ?_
 refine Zcp [0] [] (Con.some' (fun s'=>RdT xs k len cd S s' (c3::c4::t4)∧s'.rd=s231.rd+n233∧s'.off=s231.off) (c_advance_Bytes (Vs bi (so+k) len cap) _ b10 0 none s231 Oa n233 Om) ⟨hN235,adv_rd Om,rfl⟩) rfl ?_
 rintro _ _ ⟨rfl,s236,⟨hR237,hds236,hos236⟩,rfl⟩
 have hks236:=hR237.pos.ok
 have hls236:=hR237.left
 have hvs236:=hks236.val
 refine Z4 ?_
 refine Zg 512 [y_0,y_1,y_2,y_3,r_4,y_5,y_6,y_7,y_8,e_9] ?_
 refine Ypa ?_
 refine Ypy (ZaddNa ob 1) ?_
 refine Ypy (Zf fo_115_0) ?_
 refine Ypr (Zl 1 0 ag_78) ?_
 refine Ypy (Zq c2 (ZshrNb (n233+256*c2) 8)) ?_
 refine Ypy (ZcvNa c2 un_78 un_5) ?_
 refine Ypy (Zxb (ob+1) (ob+1) ae_89) ?_
 refine Yps (Zsu 2 (ob+1) sz_5) ?_
 refine GP.nil (GQ.thenN (Y5 ?_))
 refine Yy (Zf fo_150_2) ?_
 refine Yr (Zl 0 2 ag_96) ?_
 obtain⟨n238,p239,hpp239,hep239,hvp239,hcp239,hap239,hbp239,hrp239,htp239,hN240⟩:=hR237.get hT hb Om
 refine Yy (Zq p239 (ZshrNd s236.val 63) (by rw[←hpp239,hL])) ?_
 refine Yy (ZcvNa p239 un_96 un_5) ?_
 refine Yy (Zx (to+p239) p239 se_81) ?_
 refine Yr (r_ldar 1 p239 rfl rfl rfl ag_115 sz_115 Oe (nats_take1E Om hep239) rfl) ?_
 refine Ys (Zsw 1 sz_115) ?_
 refine Y2 ?_
 refine Yy (Zf fo_115_0) ?_
 refine Yr (Zl 1 0 ag_78) ?_
 refine Yy (Zq n238 (ZcvWa (n238+256*c3) un_78 un_5)) ?_
 refine Zcp [0] [] (Con.some' (fun s'=>RdT xs k len cd S s' (c4::t4)∧s'.rd=s236.rd+n238∧s'.off=s236.off) (c_advance_Bytes (Vs bi (so+k) len cap) _ b10 0 none s236 Oa n238 Om) ⟨hN240,adv_rd Om,rfl⟩) rfl ?_
 rintro _ _ ⟨rfl,s241,⟨hR242,hds241,hos241⟩,rfl⟩
 have hks241:=hR242.pos.ok
 have hls241:=hR242.left
 have hvs241:=hks241.val
 refine Z4 ?_
 refine Zg 512 [y_0,y_1,y_2,y_3,r_4,y_5,y_6,y_7,y_8,e_9] ?_
 refine Ypa ?_
 refine Ypy (ZaddNa ob 2) ?_
 refine Ypy (Zf fo_115_0) ?_
 refine Ypr (Zl 1 0 ag_78) ?_
 refine Ypy (Zq c3 (ZshrNb (n238+256*c3) 8)) ?_
 refine Ypy (ZcvNa c3 un_78 un_5) ?_
 refine Ypy (Zxb (ob+2) (ob+2) ae_89) ?_
 refine Yps (Zsu 2 (ob+2) sz_5) ?_
 refine GP.nil (GQ.thenN (Y5 ?_))
 refine Yy (Zf fo_150_2) ?_
 refine Yr (Zl 0 2 ag_96) ?_
 obtain⟨n243,p244,hpp244,hep244,hvp244,hcp244,hap244,hbp244,hrp244,htp244,hN245⟩:=hR242.get hT hb Om
 refine Yy (Zq p244 (ZshrNd s241.val 63) (by rw[←hpp244,hL])) ?_
 refine Yy (ZcvNa p244 un_96 un_5) ?_
 refine Yy (Zx (to+p244) p244 se_81) ?_
 refine Yr (r_ldar 1 p244 rfl rfl rfl ag_115 sz_115 Oe (nats_take1E Om hep244) rfl) ?_
 refine Ys (Zsw 1 sz_115) ?_
 refine Y2 ?_
 refine Yy (Zf fo_115_0) ?_
 refine Yr (Zl 1 0 ag_78) ?_
 refine Yy (Zq n243 (ZcvWa (n243+256*c4) un_78 un_5)) ?_
 refine Zcp [0] [] (Con.some' (fun s'=>RdT xs k len cd S s' t4∧s'.rd=s241.rd+n243∧s'.off=s241.off) (c_advance_Bytes (Vs bi (so+k) len cap) _ b10 0 none s241 Oa n243 Om) ⟨hN245,adv_rd Om,rfl⟩) rfl ?_
 rintro _ _ ⟨rfl,s246,⟨hR247,hds246,hos246⟩,rfl⟩
 have hks246:=hR247.pos.ok
 have hls246:=hR247.left
 have hvs246:=hks246.val
 refine Z4 ?_
 refine Zg 512 [y_0,y_1,y_2,y_3,r_4,y_5,y_6,y_7,y_8,e_9] ?_
 refine Ypa ?_
 refine Ypy (ZaddNa ob 3) ?_
 refine Ypy (Zf fo_115_0) ?_
 refine Ypr (Zl 1 0 ag_78) ?_
 refine Ypy (Zq c4 (ZshrNb (n243+256*c4) 8)) ?_
 refine Ypy (ZcvNa c4 un_78 un_5) ?_
 refine Ypy (Zxb (ob+3) (ob+3) ae_89) ?_
 refine Yps (Zsu 2 (ob+3) sz_5) ?_
 refine GP.nil (GQ.thenN (Y5 ?_))
 refine Yy (ZaddWa ob 4) ?_
 refine Y2 ?_
 refine Yy (Zeq ((ob+4)%256) 0) ?_
 refine Zn ?_
 refine Zc (fun h248=>?_) (fun h248=>?_)
 refine Y6 ?_
 refine Yy (Zlen un_22) ?_
 refine Yy (ZaddNh dn 256) ?_
 refine Yy (Zgt (dn+256) text.length) ?_
 refine Zn ?_
 refine Zc (fun h249=>?_) (fun h249=>?_)
 exfalso;omega
 refine Z7 (YG ?_)
 refine Yy (y_slA rfl rfl ae_89) ?_
 refine GL.eff (e_appN (k:=.u8) (n:=dn) (m:=256) (ys:=(((((ys.set (ob+0) c1).set (ob+1) c2).set (ob+2) c3).set (ob+3) c4).drop 0).take 256) 3 rfl rfl rfl rfl el_22 rfl rfl hg hp (Src.ofL 2 0 rfl (by first|rfl|(congr 2;omega)) (nats_src _ _ _)) Oq rfl rfl) rfl ?_
 rintro _ _ ⟨q250,b251,o252,cs253,cap254,hg255,hc256,ht257,rfl,rfl⟩
 refine Ya ?_
 refine GL.nil (GQ.blockN ?_)
 refine GQ.pick [0,1,1] rfl ?_
 exact Zb ⟨s246,(P++(B++[c1,c2,c3,c4])),[],t4,_,_,_,q250,b251,o252,cs253,cap254,rfl,hR247,by rw[htx,e4];simp,⟨Oz,Om,Om,Oz⟩,⟨by simp[hys.1],by rw[show(ob+4)%256=0 by omega];rfl⟩,hg255,hc256,(by have hh:=ht257;rw[List.drop_zero,show 256=ob+4 by omega,hset] at hh;rw[show 256=ob+4 by omega];exact hh),rfl,rfl⟩ (hs:=rfl)
 refine G.skip (GQ.blockN ?_)
 refine GQ.pick [0,1,1] rfl ?_
 exact Zb ⟨s246,P,(B++[c1,c2,c3,c4]),t4,_,_,dn,q,bq,oq,cs,capd,rfl,hR247,by rw[htx,e4];simp,⟨Oz,Om,Om,hB.2.2.2⟩,⟨by simp[hys.1],by rw[show(ob+4)%256=ob+4 by omega];exact hset⟩,hg,hc1,hp,rfl,rfl⟩ (hs:=rfl)
 refine G.exit (GQ.thenE (GQ.thenE (GQ.blockE (GQ.blockN ?_))))
 exact Zm ⟨s,P,B,t,ys,ob,dn,q,bq,oq,cs,capd,hR,htx,hB,hys,hg,hc1,hp,Om,rfl,rfl⟩
 exfalso;omega
 rintro _ _ ⟨s,P,B,t,ys,ob,dn,q,bq,oq,cs,capd,hR,htx,hB,hys,hg,hc1,hp,ho4,rfl,rfl⟩
 have hk0:=hR.pos.ok
 have hv0:=hk0.val
 have hl0:=hR.left
 have hq0:=tN_le' hT hL8 hR.all
 refine GQ.thenN (G.seq (G.seq ?_))
 have htl:text.length=P.length+B.length+t.length:=by rw[htx];simp;omega
 have hys1:=hys.1
 refine YG ?_
 refine Yy (Zlen un_22) ?_
 refine Yy (ZcvNh ob un_5 un_3) ?_
 refine Yy (ZaddNh dn ob) ?_
 refine Yy (Zgt (dn+ob) text.length) ?_
 refine Zn ?_
 refine Zc (fun h258=>?_) (fun h258=>?_)
 exfalso;omega
 refine Y8 ?_
 refine Yy (y_slAH (hi:=ob) rfl rfl rfl ae_89 Om) ?_
 refine GL.eff (e_appN (k:=.u8) (n:=dn) (m:=ob) (ys:=(ys.drop 0).take ob) 2 rfl rfl rfl rfl el_22 rfl rfl hg hp (Src.ofL 1 0 rfl (by first|rfl|(congr 2;omega)) (nats_src _ _ _)) Oq rfl rfl) rfl ?_
 rintro _ _ ⟨q259,b260,o261,cs262,cap263,hg264,hc265,ht266,rfl,rfl⟩
 refine Ya ?_
 refine Y2 ?_
 refine Yy (Zf fo_150_1) ?_
 refine Yr (Zl 0 1 ag_39) ?_
 refine Yy (ZcvNa s.off un_39 un_5) ?_
 refine Yy (ZmulNa s.off 8) ?_
 refine Yy (Zf fo_150_3) ?_
 refine Yr (Zl 0 3 ag_5) ?_
 refine Yy (ZsubNa 64 s.rd) ?_
 refine Yy (Zq (tN cd t) (ZaddNa (s.off*8) (64-s.rd))) ?_
 refine Yy (ZcvNe (tN cd t) un_5 un_158) ?_
 refine Y2 ?_
 refine Yy (Zf fo_119_1) ?_
 refine Yr (Zk 0 1 ag_5) ?_
 refine Yy (ZsubNa 8 L) ?_
 refine Yy (Zq (8-L) (ZandNa (8-L) 7) (and_low (k:=3) Om)) ?_
 refine Z4 (G.block ?_)
 refine G.pick [0,1] rfl ?_
 refine Zo (fun n ρ l=>∃s:BR,∃P t:List Nat,∃dn:Nat,∃q:Option Addr,∃bq oq:Nat,∃cs:List Value,∃capd:Nat,n=t.length∧(RdT xs k len cd S s t)∧(text=P++t)∧(dn=P.length∧s.off<4)∧(GS q bq oq cs 1 capd)∧(dn≤capd)∧(cs.take dn=nats .u8 P)∧ρ=[(0,Vp be eo),(10,Vh text.length),(8,Vp b10 0),(11,Vs bt to 256 tcap),(12,Vp b11 0),(1,.slice q dn capd),(23,Ve (tN cd t)),(24,Va (8-L))]∧l=[⟨b10,0,[Vs bi (so+k) len cap,Vd s.off,Vd s.val,Va s.rd],none⟩,⟨bq,oq,cs,none⟩]) ⟨s,(P++B),t,_,q259,b260,o261,cs262,cap263,rfl,hR,htx,⟨Oz,Om⟩,hg264,hc265,(by have hh:=ht266;rw[List.drop_zero,hys.2] at hh;exact hh),rfl,rfl⟩ ?_ (hs:=rfl)
 rintro _ _ _ ⟨s,P,t,dn,q,bq,oq,cs,capd,rfl,hR,htx,hB,hg,hc1,hp,rfl,rfl⟩
 have hk0:=hR.pos.ok
 have hv0:=hk0.val
 have hl0:=hR.left
 have hq0:=tN_le' hT hL8 hR.all
 refine Y6 ?_
 refine Yy (Zgt (tN cd t) 0) ?_
 refine Zn ?_
 refine Zc (fun h267=>?_) (fun h267=>?_)
 refine Z7 (G.block (Y6 ?_))
 refine Yy (Zf fo_150_3) ?_
 refine Yr (Zl 0 3 ag_5) ?_
 refine Yy (Zge s.rd 56) ?_
 refine Zn ?_
 refine G.meetK (fun ρ l=>∃s5:BR,(RdT xs k len cd S s5 t)∧((s5.rd<56∨s5.off=0)∧s5.off<4)∧ρ=[(0,Vp be eo),(10,Vh text.length),(8,Vp b10 0),(11,Vs bt to 256 tcap),(12,Vp b11 0),(23,Ve (tN cd t)),(1,.slice q dn capd),(24,Va (8-L))]∧l=[⟨b10,0,[Vs bi (so+k) len cap,Vd s5.off,Vd s5.val,Va s5.rd],none⟩,⟨bq,oq,cs,none⟩]) ?_ ?_
 refine Zc (fun h268=>?_) (fun h268=>?_)
 refine G.block ?_
 refine Zo (fun n ρ l=>∃s5:BR,n=s5.off∧(RdT xs k len cd S s5 t)∧(s5.off<4∧8*s5.off≤s5.rd)∧ρ=[(0,Vp be eo),(10,Vh text.length),(8,Vp b10 0),(11,Vs bt to 256 tcap),(12,Vp b11 0),(23,Ve (tN cd t)),(1,.slice q dn capd),(24,Va (8-L))]∧l=[⟨b10,0,[Vs bi (so+k) len cap,Vd s5.off,Vd s5.val,Va s5.rd],none⟩,⟨bq,oq,cs,none⟩]) ⟨s,rfl,hR,⟨Om,Om⟩,rfl,rfl⟩ ?_
 rintro _ _ _ ⟨s5,rfl,hR5,h5,rfl,rfl⟩
 have hk5:=hR5.pos.ok
 have hl5:=hR5.left
 have hv5:=hk5.val
 have hb5:=hb.at_ (k+(s5.off-1))
 refine Y6 ?_
 refine Yy (Zf fo_150_1) ?_
 refine Yr (Zl 0 1 ag_39) ?_
 refine Yy (Zgt s5.off 0) ?_
 refine Zn ?_
 refine Zc (fun h269=>?_) (fun h269=>?_)
 refine Z7 (G.block (G.seq ?_))
 refine Zg 65536 [y_0,r_1,y_2,r_3,y_4,r_5,y_6,y_7,r_8,y_9,y_10,r_11,y_12,y_13,y_14,y_15,e_16] ?_
 refine Ypy (Zf fo_150_2) ?_
 refine Ypr (Zl 0 2 ag_96) ?_
 refine Ypy (Zf fo_150_0) ?_
 refine Ypr (Zl 0 0 ag_22) ?_
 refine Ypy (Zf fo_150_1) ?_
 refine Ypr (Zl 0 1 ag_39) ?_
 refine Ypy (ZsubNd s5.off 1) ?_
 refine Ypy (Zx (so+(k+(s5.off-1))) (s5.off-1) se_22) ?_
 refine Ypr (r_ldr 2 (k+(s5.off-1)) rfl rfl rfl ag_5 (by first|omega|(dsimp only;omega)|rfl) (nats_get Om)) ?_
 refine Ypy (ZcvNd (xs.getD (k+(s5.off-1)) 0) un_5 un_96) ?_
 refine Ypy (Zf fo_150_3) ?_
 refine Ypr (Zl 0 3 ag_5) ?_
 refine Ypy (ZsubNa s5.rd 8) ?_
 refine Ypy (ZshlWd (xs.getD (k+(s5.off-1)) 0) (s5.rd-8)) ?_
 refine Ypy (ZorNd s5.val ((xs.getD (k+(s5.off-1)) 0)*2^(s5.rd-8)%18446744073709551616)) ?_
 refine Ypy (Zf fo_150_2) ?_
 refine Yps (Zst 0 2 sz_96) ?_
 refine GP.nil (GQ.thenN (Y5 ?_))
 refine Yy (Zf fo_150_3) ?_
 refine Yr (Zl 0 3 ag_5) ?_
 refine Yy (ZsubNa s5.rd 8) ?_
 refine Yy (Zf fo_150_3) ?_
 refine Ys (Zst 0 3 sz_5) ?_
 refine Y1 ?_
 refine Yy (Zf fo_150_1) ?_
 refine Yr (Zl 0 1 ag_39) ?_
 refine Yy (ZsubNd s5.off 1) ?_
 refine Yy (Zf fo_150_1) ?_
 refine Ys (Zst 0 1 sz_39) ?_
 refine GL.nil (GQ.blockN ?_)
 exact Zb ⟨(s5.load1 xs k),rfl,hR5.load1 hb Om Om,⟨by simp[BR.load1];omega,by simp[BR.load1];omega⟩,rfl,rfl⟩ (by simp[BR.load1];omega)
 refine G.exit (GQ.thenE (GQ.thenE (GQ.blockE ?_)))
 exact Zm ⟨s5,hR5,⟨Om,Om⟩,rfl,rfl⟩
 refine G.skip ?_
 exact Zm ⟨s,hR,⟨Om,Om⟩,rfl,rfl⟩
 rintro _ _ ⟨s5,hR5,h5,rfl,rfl⟩
 have hk5:=hR5.pos.ok
 have hl5:=hR5.left
 have hv5:=hk5.val
 refine GQ.thenN (G.seq (G.seq ?_))
 obtain⟨c1,t1,e1⟩:=one_of (t:=t) Om
 have hRc:RdT xs k len cd S s5 (c1::t1):=e1▸hR5
 have ht1:t.length=t1.length+1:=by rw[e1];rfl
 have htn:tN cd t=tN cd (c1::t1):=by rw[e1]
 have htl:text.length=P.length+t.length:=by rw[htx];simp
 refine YG ?_
 refine Yy (Zlen un_22) ?_
 refine Yy (Zge dn text.length) ?_
 refine Zn ?_
 refine Zc (fun h270=>?_) (fun h270=>?_)
 exfalso;omega
 refine Y8 ?_
 obtain⟨n271,p272,hpp272,hep272,hvp272,hcp272,hap272,hbp272,hrp272,htp272,hN273⟩:=hRc.get hT hb Om
 refine Zcc [0] [] (c_peek_Bytes (Vs bi (so+k) len cap) _ b10 0 none s5 Oa) rfl ?_
 refine Ya ?_
 refine Yy (Zq p272 (ZshrNa (s5.val/2^56%256) (8-L)) ((shr_peek _ L hL8 Oa).trans hpp272)) ?_
 refine Yy (Zx (to+p272) p272 se_81) ?_
 refine Yr (r_ldar 1 p272 rfl rfl rfl ag_115 sz_115 Oe (nats_take1E Om hep272) rfl) ?_
 refine Ze (Zal zc_115) fun b274=>?_
 refine Ys (Zsw 0 sz_115) ?_
 refine Y2 ?_
 refine Yy (Zf fo_115_0) ?_
 refine Yr (Zl 0 0 ag_78) ?_
 refine Yy (Zq n271 (ZcvWa (n271+256*c1) un_78 un_5)) ?_
 refine Y2 ?_
 refine Zcp [1] [] (Con.some' (fun s'=>RdT xs k len cd S s' t1∧s'.rd=s5.rd+n271∧s'.off=s5.off) (c_advance_Bytes (Vs bi (so+k) len cap) _ b10 0 none s5 Oa n271 Om) ⟨hN273,adv_rd Om,rfl⟩) rfl ?_
 rintro _ _ ⟨rfl,s275,⟨hR276,hds275,hos275⟩,rfl⟩
 have hks275:=hR276.pos.ok
 have hls275:=hR276.left
 have hvs275:=hks275.val
 refine Y2 ?_
 refine Yy (ZcvNe n271 un_5 un_158) ?_
 refine Yy (Zq (tN cd t1) (ZsubNe (tN cd t) n271)) ?_
 refine Y1 ?_
 refine Yy (Zf fo_115_0) ?_
 refine Yr (Zl 1 0 ag_78) ?_
 refine Yy (Zq c1 (ZshrNb (n271+256*c1) 8)) ?_
 refine Yy (ZcvNa c1 un_78 un_5) ?_
 refine Ze (e_bs (ps:=[(0,.tmp 1044)]) (pv:=[(0,Va c1)]) (vs:=[Va c1]) 1 rfl ⟨rfl,rfl⟩ el_22 Od Ov rfl rfl) fun b277=>?_
 refine GL.eff (e_appN (k:=.u8) (n:=dn) (m:=1) (ys:=[c1]) 3 rfl rfl rfl rfl el_22 rfl rfl hg hp (Src.ofL 0 0 rfl rfl rfl) Oq rfl rfl) rfl ?_
 rintro _ _ ⟨q278,b279,o280,cs281,cap282,hg283,hc284,ht285,rfl,rfl⟩
 refine Ya ?_
 refine GL.nil (GQ.blockN ?_)
 refine GQ.pick [1,2] rfl ?_
 exact Zb ⟨s275,(P++[c1]),t1,_,q278,b279,o280,cs281,cap282,rfl,hR276,by rw[htx,e1];simp,⟨Oz,Om⟩,hg283,hc284,ht285,rfl,rfl⟩ (hs:=rfl)
 refine G.exit (GQ.thenE (GQ.thenE (GQ.blockE (GQ.thenN (Y5 ?_)))))
 refine Yy (Zf fo_119_2) ?_
 refine Yr (Zk 0 2 ag_117) ?_
 refine Yy (y_mi rfl rfl un_124 rfl) ?_
 refine Zcc [] [] (c_poolPut _ _) rfl ?_
 refine Z4 ?_
 have h0:s.off=0:=Om
 have h64:s.rd=64:=Om
 have ht0:t=[]:=List.eq_nil_of_length_eq_zero Om
 have hPt:P=text:=by rw[htx,ht0];simp
 have hdl2:text.length=P.length:=by rw[←hPt]
 refine YG ?_
 refine Zcc [0] [] (c_close_Bytes (Vs bi (so+k) len cap) _ b10 0 none s Oa Oa Oa Om) rfl ?_
 refine Ya ?_
 refine Zn (G.ret ?_)
 repeat first|refine ZR ?_|refine ZB ?_
 exact ret2 [1] rfl rfl rfl rfl (⟨q,bq,oq,cs,capd,by rw[show text.length=dn by omega],hg,Om,by rw[show text.length=dn by omega, ←hPt];exact hp,rfl⟩)
set_option maxHeartbeats 4000000 in
theorem c_D1X_le (bi so:Nat) (shi:Shp) (xs:List Nat) (k len cap:Nat) (hc:len≤cap) (hk:k+len≤xs.length) (hz:xs.length≤1152921504606846976) (hb:Bytes xs)
    (bt to tcap:Nat) (sht:Shp) (dt:List Nat) (hdl:dt.length=2048) (htc:2048≤tcap) (L:Nat) (cd:Nat→Nat × Nat) (S:Nat→Prop) (hT:Tab dt L cd S)
    (be eo:Nat) (she:Shp) (dp:Value) (bd:Nat) (zs text:List Nat) (hzs:zs.length=text.length) (htl1:1≤text.length) (h48:text.length≤1073741824)
    (hlen:1≤len) (hlast:0<xs.getD (k+(len-1)) 0) (hL8:L≤8) (hR0:RdT xs k len cd S (BR.init 4 xs k len) text):Con Tryz.prog 24 [Vp be eo,Vs bd 0 0 text.length,Vs bi (so+k) len cap] [⟨bd,0,(nats .u8 zs),none⟩] [⟨be,eo,[Vs bt to 2048 tcap,Va L,dp],she⟩,⟨bt,to,(nats .u16 dt),sht⟩,⟨bi,so,(nats .u8 xs),shi⟩] (fun v l'=>∃q b o cs cap,v=.tuple #[.slice q text.length cap,.nilIface]∧GS q b o cs 1 cap∧text.length≤cap∧cs.take text.length=nats .u8 text∧l'=[⟨b,o,cs,none⟩]):=by
 refine Zi Tryz.func24 rfl fun w0=>?_
 refine G.seq ?_
 have hL1:=hT.L1
 have hLL:=pow_le hL8
 have hOK0:=hR0.pos.ok
 refine YG ?_
 refine Y3 ?_
 refine Yy (Zf fo_119_0) ?_
 refine Yy (Zf fo_83_0) ?_
 refine Yr (Zk 0 0 ag_81) ?_
 refine Yy (Zlen un_81) ?_
 refine Yy (Zeq 2048 0) ?_
 refine Zn ?_
 refine G.condDF rfl Od ?_
 refine Z7 (Y6 ?_)
 refine Yy (Zf fo_119_1) ?_
 refine Yr (Zk 0 1 ag_5) ?_
 refine Yy (Zle L 8) ?_
 refine Zn ?_
 refine Zc (fun h1=>?_) (fun h1=>?_)
 refine Y5 ?_
 refine Zcp [0] [0,1,2] (c_D1X_lo _ _ _ _ _ _ _ hc hk hz hb _ _ _ _ _ hdl htc _ _ _ hT _ _ _ _ _ _ _ hzs htl1 h48 hlen hlast Om hR0) rfl ?_
 rintro _ _ ⟨q2,b3,o4,cs5,cap6,rfl,hg7,hc8,hp9,rfl⟩
 refine Ya ?_
 refine Zn (G.ret ?_)
 repeat first|refine ZR ?_|refine ZB ?_
 exact ret2 [0] rfl rfl rfl rfl (⟨q2,b3,o4,cs5,cap6,rfl,hg7,hc8,hp9,rfl⟩)
 exfalso;omega
end Go.Proofs.YtplgbfkpeampgaaGreatDoor
