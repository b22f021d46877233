/- Walks (printed by a program of my own). -/
import Derived.Test.YtekcchgffhphbaaGreatDoorQA
import Derived.Test.YtekcchgffhphbaaGreatDoorQ9
set_option linter.unusedVariables false
set_option linter.unusedSimpArgs false
set_option maxRecDepth 100000
namespace Go.Proofs.YtekcchgffhphbaaGreatDoor
open Go
theorem af8:(Tryz.prog.info? 138).map (fun z=>Nat.blt 0 z.size)=some true:=by kernel_rfl
theorem af9:(Tryz.prog.info? 136).map (·.comparable)=some true:=by kernel_rfl
theorem Fl (eb eo mE:Nat) (sE:au) (hE:sE.b=eb∧sE.o+mE=eo∧mE<sE.cs.length) (b0 o0 n0:Nat) (E0:au) (hE0:E0.b=b0∧n0<E0.cs.length) (b1 o1 n1:Nat) (E1:au) (hE1:E1.b=b1∧n1<E1.cs.length) (b2 o2 n2:Nat) (E2:au) (hE2:E2.b=b2∧n2<E2.cs.length):aE Tryz.prog 25 [.iface 136 (Vp eb eo)] [] [⟨0,0,[.iface 136 (Vp b0 o0)],none⟩,⟨1,0,[.iface 136 (Vp b1 o1)],none⟩,⟨2,0,[.iface 136 (Vp b2 o2)],none⟩,E0,E1,E2,sE] (fun v l'=>∃k:Nat,v=Vh k∧(1≤k∧k≤4)∧l'=[]):=by
 refine Zi Tryz.func25 rfl fun w0=>?_
 refine A4 ?_;refine Yy (uR rfl rfl eP.h) ?_;refine A4 ?_;refine GL.c8 (Hd (i:=6) (j:=3) (m:=mE) (n:=n0) rfl rfl rfl eP.h Hl.h af9 af8 rfl hE rfl hE0 rfl rfl) rfl ?_;rintro _ _ ⟨z1,rfl,rfl⟩;refine A2 ?_;refine G.cond rfl (fun h2=>?_) (fun h2=>?_);refine A3 ?_;repeat first|refine ZR ?_|refine ZB ?_
 exact cy [] rfl rfl rfl (⟨1,rfl,Od,rfl⟩);refine A2 ?_;refine GL.c8 (Hd (i:=6) (j:=4) (m:=mE) (n:=n1) rfl rfl rfl eP.h Hl.h af9 af8 rfl hE rfl hE1 rfl rfl) rfl ?_;rintro _ _ ⟨z3,rfl,rfl⟩;refine A2 ?_;refine G.cond rfl (fun h4=>?_) (fun h4=>?_);refine A3 ?_;repeat first|refine ZR ?_|refine ZB ?_
 exact cy [] rfl rfl rfl (⟨2,rfl,Od,rfl⟩);refine A2 ?_;refine GL.c8 (Hd (i:=6) (j:=5) (m:=mE) (n:=n2) rfl rfl rfl eP.h Hl.h af9 af8 rfl hE rfl hE2 rfl rfl) rfl ?_;rintro _ _ ⟨z5,rfl,rfl⟩;refine A2 ?_;refine G.cond rfl (fun h6=>?_) (fun h6=>?_);refine A3 ?_;repeat first|refine ZR ?_|refine ZB ?_
 exact cy [] rfl rfl rfl (⟨3,rfl,Od,rfl⟩);refine A6 ?_;repeat first|refine ZR ?_|refine ZB ?_
 exact cy [] rfl rfl rfl (⟨4,rfl,Od,rfl⟩)
theorem nV (a a0 a1 a2:Addr) (sE E0 E1 E2:au) (hE:Pt a sE) (h0:Pt a0 E0) (h1:Pt a1 E1) (h2:Pt a2 E2):aE Tryz.prog 25 [.iface 136 (.pointer (some a))] [] [⟨0,0,[.iface 136 (.pointer (some a0))],none⟩,⟨1,0,[.iface 136 (.pointer (some a1))],none⟩,⟨2,0,[.iface 136 (.pointer (some a2))],none⟩,E0,E1,E2,sE] (fun v l'=>∃k:Nat,v=Vh k∧(1≤k∧k≤4)∧l'=[]):=by
  obtain⟨ab,ao,asp⟩:=a;obtain⟨b0,o0,s0⟩:=a0;obtain⟨b1,o1,s1⟩:=a1;obtain⟨b2,o2,s2⟩:=a2;obtain⟨p1,p2,m,p3,p4⟩:=hE;obtain⟨q1,q2,m0,q3,q4⟩:=h0;obtain⟨r1,r2,m1,r3,r4⟩:=h1;obtain⟨u1,u2,m2,u3,u4⟩:=h2;simp only at p1 p2 p3 q1 q2 r1 r2 u1 u2;subst p2;subst q2;subst r2;subst u2;exact Fl ab ao m sE ⟨p1,p3,p4⟩ b0 o0 m0 E0 ⟨q1,q4⟩ b1 o1 m1 E1 ⟨r1,r4⟩ b2 o2 m2 E2 ⟨u1,u4⟩
theorem XQ.seg {a0 a1 a2 a:Addr} {N E0 E1 E2:au} (h:XQ a0 a1 a2 a N) (h0:Pt a0 E0) (h1:Pt a1 E1) (h2:Pt a2 E2):∃s,(s=N∨s=E0∨s=E1∨s=E2)∧Pt a s:=by
  rcases h with rfl|rfl|rfl|h
  · exact⟨E0,.inr (.inl rfl),h0⟩
  · exact⟨E1,.inr (.inr (.inl rfl)),h1⟩
  · exact⟨E2,.inr (.inr (.inr rfl)),h2⟩
  · exact⟨N,.inl rfl,h⟩
theorem iW.rd {bT oT nT b o m:Nat} {cs:List Value} {tb zs:List Nat} {O:au} (h:iW bT oT nT tb b o O) (hl:tb.length=nT) (hp:cs.take (nT+m)=aa .u8 (tb++zs)):∃s,(s=⟨b,o,cs,none⟩∨s=O)∧Rd (some ⟨bT,oT,none⟩) nT 1 (aa .u8 tb) s 0:=by
  rcases h with ⟨rfl,rfl,_⟩|⟨h1,h2,h3⟩
  · refine⟨_,.inl rfl,⟨by simp[hl],fun _=>rfl,?_⟩⟩;show(cs.drop 0).take (aa .u8 tb).length=aa .u8 tb;rw[List.drop_zero,bJ,hl];have:=Of hp (show nT≤nT+m by omega);rw[this,List.take_left' hl]
  · refine⟨O,.inr rfl,⟨by simp[hl],fun _=>by rw[h1,h2];rfl,?_⟩⟩;rw[List.drop_zero,bJ,hl];exact h3
theorem GS.apa {q:Option Addr} {b o nT m cap:Nat} {cs:List Value} {tb zs:List Nat} (hg:GS q b o cs 1 cap) (hc:nT+m≤cap) (hp:cs.take (nT+m)=aa .u8 (tb++zs)) (hl:tb.length=nT) (hm:zs.length=m):Rd (lj q nT 1 cap) (nT+m-nT) 1 (aa .u8 zs) ⟨b,o,cs,none⟩ (0+nT*1):=by
  refine(Rd.q5 hg hc hp).cut (lo:=nT) (m:=nT+m-nT) Om ?_ (fun h0=>qo (hg.ay Om) Om (by show o+nT*1=o+(0+nT*1);omega));rw[Nat.mul_one,Nat.mul_one,lL,List.drop_left' (by simp[hl]),List.take_of_length_le Oz]
set_option maxHeartbeats 4000000 in
theorem apb (bS:Nat) (di:bV) (C2:List Nat) (g1 g2 g3 g4 g5 g6 g7 g8 g9 fq ft kX fI gC fG kY fu fv fw fx gi:Value) (bC oC:Nat) (Mk:bV) (T:List (Nat × Nat)) (zo:T.length=256) (sl:Nat) (j6:sl≤256) (bW oW:Nat) (iF:List Value) (nW cx:Nat) (fj:List Nat) (sU:iF.length=cx) (xf:nW≤cx) (ss:iF.take nW=aa .u8 fj) (MW:fj.length=nW) (Mb:cx≤9223372036854775807) (hnW:nW≤16000000) (sA:au) (qA:Option Addr) (nA cA jA:Nat) (ch:List Nat) (hA:Rd qA nA 1 (aa .u8 ch) sA jA) (paA:PA qA cA) (zt:nA≤cA) (zQ:nA≤1048576) (jF:Bytes ch) (ls:List Nat) (hc:B3 ls ch) (hT:∀c ∈ ch,T.getD c (0,0)=(jr ls c,ls.getD c 0)) (t0:TypeId) (x0:Value):aE Tryz.prog 55 [Vp bS 0,.slice qA nA cA] [⟨bS,0,(aa .u32 C2),di⟩,⟨bS,256,[Vs bW oW nW cx,g1,g2,g3,g4,g5,g6,g7,g8,g9,fq,ft,kX,fI,gC,Vs bC oC sl 256,fG,kY,fu,fv,fw,fx,gi],none⟩,⟨bW,oW,iF,none⟩] [⟨bC,oC,(rows fC T),Mk⟩,sA,⟨0,0,[.iface t0 x0],none⟩] (fun v l'=>∃ok q b o cs cap zs O w9,v=.tuple #[okV ok (.slice q (nW+zs.length) cap),BX ok t0 x0]∧GS q b o cs 1 cap∧nW+zs.length≤cap∧cs.take (nW+zs.length)=aa .u8 (fj++zs)∧iW bW oW nW fj b o O∧cap≤9223372036854775807∧zs.length≤2000000∧(ok=true→vk ls ch zs)∧l'=[⟨bS,0,(aa .u32 C2),di⟩,⟨bS,256,[w9,g1,g2,g3,g4,g5,g6,g7,g8,g9,fq,ft,kX,fI,gC,Vs bC oC sl 256,fG,kY,fu,fv,fw,fx,gi],none⟩,⟨b,o,cs,none⟩,O]):=by
 refine Zi Tryz.func55 rfl fun w0=>?_
 refine A1 ?_;refine bN ?_;have wM:=hA.lV;have uF:=Eu (ls:=ls) ch fun c9 oI=>(hc.len c9 oI).2
 refine A3 ?_;refine cF [2] [0,1,2,3] (amI bS di C2 (Vs bW oW nW cx) g1 g2 g3 g4 g5 g6 g7 g8 g9 fq ft kX fI gC fG kY fu fv fw fx gi bC oC Mk T zo sl j6 bW oW iF nW cx fj sU xf ss MW Mb Om sA qA nA cA jA ch hA paA Om Om jF ls hc hT) rfl ?_;rintro _ _ ⟨q1,b2,o3,cs4,Ho,zs6,O7,rfl,X',oI,QC,aBC,aBD,Mn,rfl⟩;refine A3 ?_;repeat first|refine ZR ?_|refine ZB ?_
 exact jj [2,2,0,0] rfl rfl rfl rfl (⟨true,_,_,_,_,_,zs6,O7,_,rfl,X',oI,QC,aBC,aBD,(by rw[Mn.2.1];omega),(fun _=>⟨Mn.1,Mn.2.1,Mn.2.2⟩),rfl⟩)
theorem apc:Bg 55 vk:=apb
theorem SA (k:Nat) (hk:1≤k∧k≤4):aE Tryz.prog 11 [Vh k] [] [] (fun v l'=>v=.bool true∧l'=[]):=by
 refine Zi Tryz.func11 rfl fun w0=>?_
 refine A2 ?_;refine Yy (af (v8 k 0) (congrArg Value.bool (show decide (((0:Nat):Int)≤((k:Nat):Int))=true from decide_eq_true Om))) ?_;refine Yy (af (Zle k 4) (congrArg Value.bool (show decide (((k:Nat):Int)≤((4:Nat):Int))=true from decide_eq_true Om))) ?_;refine A2 ?_;repeat first|refine ZR ?_|refine ZB ?_
 exact cy [] rfl rfl rfl (⟨rfl,rfl⟩)
theorem Bh (qT:Option Addr) (bT oT:Nat) (csT:List Value) (wO:Nat) (tb:List Nat) (nT:Nat) (hgT:GS qT bT oT csT 1 wO) (hcT:nT≤wO) (hpT:csT.take nT=aa .u8 tb) (hlT:tb.length=nT) (sD:au) (qD:Option Addr) (nD cD jD:Nat) (zs:List Nat) (hD:Rd qD nD 1 (aa .u8 zs) sD jD) (hcD:nD≤cD) (hzD:nD≤1152921504606846976) (text:List Nat) (nX:Nat) (hlX:text.length=nX) (CN ls:List Nat) (L last:Nat) (hT:pA CN ls L last tb) (h1:1≤nX∧nX≤1073741824) (ha:∀c ∈ text,Has ls c) (hz:vk ls text zs):
    aE Tryz.prog 14 [.slice qT nT wO,.slice qD nD cD,.bool false,Vh nX] [] [⟨bT,oT,csT,none⟩,sD] (fun v l'=>∃q b o cs cap,v=.tuple #[.slice q text.length cap,.bool true]∧GS q b o cs 1 cap∧text.length≤cap∧cs.take text.length=aa .u8 text∧l'=[⟨b,o,cs,none⟩]):=by
  subst hlT;subst hlX;have hlD:zs.length=nD:=hD.lV;subst hlD;have h9:=hT.tw.size;have h8:0<tb.length:=by
    rcases hT.tw with ⟨_,b⟩|⟨_,_,_,_,b⟩<;>(rw[b];simp)
  have eT:=hgT.ay Om;subst eT;have h7:=hz.len;have eD:=hD.ad Om;subst eD;exact aE.front hpT (aE.JX (aE.rd hD Om (aE.JX (zV bT oT none tb wO hcT Om hT.bytes ls L last hT.hw hT.wh hT.wh.even hT.tw sD.b (sD.o+jD) none zs cD hcD Om hz.bytes text h1.2 h1.1 ha h7 (by rw[h7];exact hz.val)))))
end Go.Proofs.YtekcchgffhphbaaGreatDoor
